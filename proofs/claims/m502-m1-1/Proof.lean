import JvmDerived
import JvmDerived.Pilot.@@N@@Statement
import JvmDerived.Pilot.@@N@@Code
set_option linter.unusedVariables false
set_option linter.unusedSimpArgs false
namespace Jvm.RoadKit
open Sem ClassFile Op Lib Jvm.Stand Jvm.Free Jvm.LawKit
section New
variable {p : Program} {l : Launch} {e : Env} {R : Room} {s : State} {m : MethodId} {args : Array Value} {below : List Frame} {meth : Method} {c : Code} {T : State} {locs : List Loc} {cells slots : Nat}
theorem retI (X : Stand p l e R s m args below meth c T locs cells slots) (hx : p.tables.exec = Jvm.exec) {pc : Nat} {Ls : Array Slot} {z : Int32} {rest : List Value} (hret : meth.sig.returnType = some .int) (hd : decode c.code pc = .ok (.ireturn, 1)) {fs : List Frame}
    (hl : ∀ (f : JFrame) (acts : List Action), f.method = m → f.locked = none → f.entered = [] → (doReturn e (T.setTop f) acts (some (.int z))).1 = T.setFrames fs) : Steps p.tables e below (T.setTop (mkF m pc Ls (.int z :: rest))) (T.setFrames fs) := by
  have hm' : T.vm.method? m = some meth := X.method'
  have hn : narrow .int (.int z) = .int z := rfl
  show Steps p.tables e below (T.setTop { method := m, pc := pc, locals := Ls, stack := _ :: rest, locked := none }) _
  jvm_step X.here [X.here.top, hx, hd, hm', hret, hn]
  first | (intro acts; rw [hl _ acts rfl rfl rfl]) | rw [hl _ _ rfl rfl rfl]
  exact Steps.refl _
end New
end Jvm.RoadKit
namespace Jvm.Pilot.@@N@@
open Jvm Jvm.ClassFile Sem Op Lib Jvm.Free Jvm.Stand Jvm.LawKit Jvm.RoadKit Bundle Jvm.Pilot.@@N@@.Jvm.D
/-! the goal of a walk, gone through forwards: from the state A the run comes to an end that answers R -/
def own_G (tb : Tables) (e : Env) (below : List Frame) (R : State → Outcome → Prop) (A : State) : Prop := ∃ t o, Steps tb e below A t ∧ t.status = .running ∧ Ended t below o ∧ R t o
theorem own_in {tb : Tables} {e : Env} {below : List Frame} {R : State → Outcome → Prop} {A : State} (h : own_G tb e below R A) : ∃ t o, Steps tb e below A t ∧ t.status = .running ∧ Ended t below o ∧ R t o := h
theorem own_pre {tb : Tables} {e : Env} {below : List Frame} {R : State → Outcome → Prop} {A B : State} (k : ∀ t, Steps tb e below B t → Steps tb e below A t) (h : own_G tb e below R B) : own_G tb e below R A := by
  obtain ⟨t, o, h1, h2⟩ := h
  exact ⟨t, o, k t h1, h2⟩
/-! a part of a walk: from A the run comes to some state that answers P -/
def own_J (tb : Tables) (e : Env) (below : List Frame) (P : State → Prop) (A : State) : Prop := ∃ B, P B ∧ ∀ t, Steps tb e below B t → Steps tb e below A t
theorem own_preJ {tb : Tables} {e : Env} {below : List Frame} {P : State → Prop} {A B : State} (k : ∀ t, Steps tb e below B t → Steps tb e below A t) (h : own_J tb e below P B) : own_J tb e below P A := by
  obtain ⟨C, h1, h2⟩ := h
  exact ⟨C, h1, fun t q => k t (h2 t q)⟩
theorem own_more {p : Program} {l : Launch} {e : Env} {R : Room} {s : State} {m : MethodId} {args : Array Value} {below : List Frame} {meth : Method} {c : Code} {T : State} {locs : List Loc} {cells slots cells' slots' : Nat} (X : Stand p l e R s m args below meth c T locs cells slots) (h : cells ≤ cells') (h' : slots ≤ slots') : Stand p l e R s m args below meth c T locs cells' slots' :=
  { X with same := X.same.mono h h' }
theorem ow {d : Jvm.Cond} (i : Nat) (h : tables_1[i]? = some d) : d ∈ tables_1 := List.mem_of_getElem? h
theorem own_root {Z : State} {a0 : Array Value} {O K : String} {n : Nat} (w : (Jvm.Cond.noSuperclass O).before a0 Z = true) (wk : (Jvm.Cond.instantiable K n).before a0 Z = true) (hn : O ≠ K) : NS Z O K := by
  obtain ⟨c, k, h1, h2, h3, -, -⟩ := Cond.noSuperclass_spec w
  obtain ⟨t, kt, g1, -⟩ := Cond.instantiable_spec wk
  have ne := ids_ne h1 g1 hn
  exact ⟨c, t, h1, g1, fun fuel => by cases fuel <;> simp [Vm.isSubclassAux, ne, h2, h3]⟩
theorem own_nosub {Z : State} {a0 : Array Value} {C S K : String} {n : Nat} (w : (Jvm.Cond.superclass C S).before a0 Z = true) (wk : (Jvm.Cond.instantiable K n).before a0 Z = true) (N : NS Z C K) (hn : C ≠ K) : ∃ c t, Z.vm.findClass C = some c ∧ Z.vm.findClass K = some t ∧ Z.vm.assignable c t = false := by
  obtain ⟨c, t, h0, g0, n3⟩ := N
  obtain ⟨p, k, kp, -, h2, -, -, h5, -, -⟩ := Cond.superclass_spec h0 w
  obtain ⟨t', k', g1, g2, g3, g4, -⟩ := Cond.instantiable_spec wk
  cases g0.symm.trans g1
  have ne := ids_ne h0 g0 hn
  have g5 : k'.isInterface = false := by simp at g4; exact g4.1
  refine ⟨c, t, h0, g0, ?_⟩
  show Z.vm.assignableAux (255 + 1) c t = false
  simp [Vm.assignableAux, ne, h2, g2, h5, g3, g5, Vm.isSubclass, n3]
theorem own_cache {Z : State} {args : Array Value} {C CC D : String} {Y : Jvm.Cond} (h1 : (Jvm.Cond.arrayOf (.static CC "cache" D) (.object C)).before args Z = true) (h2 : (Jvm.Cond.eq (.length (.static CC "cache" D)) (.int 256)).before args Z = true)
    (h3 : (Jvm.Cond.all (.static CC "cache" D) (.and (.exactly (.elem (.static CC "cache" D) (.index 0)) C) Y)).before args Z = true) :
    ∃ arr c, (Term.static CC "cache" D).eval args Z none [] Z = some (.ref arr) ∧ Arr Z Z.heap arr c (.object C) ∧ c.slots.size = 256 ∧ ∀ j, j < 256 → ∃ r, c.slots[j]? = some (.ref r) ∧ Exa Z Z.heap r C := by
  obtain ⟨arr, ev⟩ := arr_v (Cond.before_iff.mp h1)
  obtain ⟨c, A⟩ := Arr.start ev (Cond.before_iff.mp h1)
  obtain ⟨hs, hl⟩ := IntBox.length_fwd h2 ev A.1 A.2.1 A.2.2
  have hat := IntBox.arrayAt_of A.1 A.2.1 A.2.2
  have h256 : c.slots.size = 256 := by
    have e := len_toInt hs
    rw [hl] at e
    have e2 : (256 : Int32).toInt = 256 := by decide
    omega
  have hall := Cond.all_elim ev hat (Cond.before_iff.mp h3)
  refine ⟨arr, c, ev, A, h256, fun j hj => ?_⟩
  obtain ⟨q, -⟩ := and_e (hall j (by omega))
  have hx' : (Jvm.Cond.exactly (.elem (.static CC "cache" D) (.index 0)) C).holds args Z none Z [j] = true := by simp [Cond.holds, q]
  obtain ⟨r, c', cell, k, e1, e2, e3, e4, e5, rfl, e7⟩ := Cond.exactly_spec hx'
  have ev' : (Term.static CC "cache" D).eval args Z none [j] Z = some (.ref arr) := ev
  obtain ⟨hn, hb⟩ := IntBox.place_nonneg j hj
  have hi : (Term.index 0).eval args Z none [j] Z = some (.int j.toInt32) := rfl
  obtain ⟨-, hv⟩ := elem_in e1 ev' hi A.1
  rw [hb] at hv
  exact ⟨r, hv, cell, k, e3, e2, e4, e5, e7⟩
theorem own_not {Z : State} {a0 : Array Value} (hw : ∀ d ∈ tables_1, d.before a0 Z = true) : ∃ c t, Z.vm.findClass "java/lang/Integer" = some c ∧ Z.vm.findClass "com/example/tacit_quorum/tacitquorum/server/Vote" = some t ∧ Z.vm.assignable c t = false :=
  own_nosub (hw _ (ow 29 rfl)) (hw _ (ow 1 rfl)) (NS.step (hw _ (ow 29 rfl)) (NS.step (hw _ (ow 30 rfl)) (own_root (hw _ (ow 31 rfl)) (hw _ (ow 1 rfl)) (by decide)) (by decide)) (by decide)) (by decide)
theorem d1_0 : decode prog_48_method_1_code 0 = .ok (.aload_n 0, 1) := by decide +kernel
theorem d1_1 : decode prog_48_method_1_code 1 = .ok (.invokespecial 1, 3) := by decide +kernel
theorem d1_4 : decode prog_48_method_1_code 4 = .ok (.aload_n 0, 1) := by decide +kernel
theorem d1_5 : decode prog_48_method_1_code 5 = .ok (.iload_n 1, 1) := by decide +kernel
theorem d1_6 : decode prog_48_method_1_code 6 = .ok (.putfield 7, 3) := by decide +kernel
theorem d1_9 : decode prog_48_method_1_code 9 = .ok (.aload_n 0, 1) := by decide +kernel
theorem d1_10 : decode prog_48_method_1_code 10 = .ok (.lload_n 2, 1) := by decide +kernel
theorem d1_11 : decode prog_48_method_1_code 11 = .ok (.putfield 13, 3) := by decide +kernel
theorem d1_14 : decode prog_48_method_1_code 14 = .ok (.aload_n 0, 1) := by decide +kernel
theorem d1_15 : decode prog_48_method_1_code 15 = .ok (.lload 4, 2) := by decide +kernel
theorem d1_17 : decode prog_48_method_1_code 17 = .ok (.putfield 17, 3) := by decide +kernel
theorem d1_20 : decode prog_48_method_1_code 20 = .ok (.return_, 1) := by decide +kernel
theorem pn_1 : plainName "com/example/tacit_quorum/tacitquorum/server/Vote" = true := by first | (simp [plainName, overriddenIn]; done) | decide +kernel
theorem ef_1 (m : MethodId) (x0 : Addr) (x1 : Int32) (x2 : Int64) (x3 : Int64) : entryFrame m #[(.ref x0), (.int x1), (.long x2), (.long x3)] 6 = mkF m 0 #[.val (.ref x0), .val (.int x1), .val (.long x2), .second, .val (.long x3), .second] [] := by first | (simp [entryFrame, mkF, argsToLocals, Value.category]; done) | rfl
def Q1 (Z : State) (a1 : Addr) (p2 : Int32) (q3 : Int64) (q4 : Int64) (u_leader_a1 : Value) (u_zxid_a1 : Value) (u_epoch_a1 : Value) (h0 : Heap) (n0 : Nat) (v : Option Value) (h : Heap) (L : List Loc) : Prop := v = none ∧ Fr n0 L ∧ Keep h0 h [a1] ∧ Exa Z h a1 "com/example/tacit_quorum/tacitquorum/server/Vote" ∧ Fld Z h a1 "com/example/tacit_quorum/tacitquorum/server/Vote" "leader" "I" (.int p2) ∧ Fld Z h a1 "com/example/tacit_quorum/tacitquorum/server/Vote" "zxid" "J" (.long q3) ∧ Fld Z h a1 "com/example/tacit_quorum/tacitquorum/server/Vote" "epoch" "J" (.long q4)
set_option maxRecDepth 65536 in
set_option maxHeartbeats 40000000 in
theorem rm1 (l : Launch) (Z : State) (a0 : Array Value) (hw : ∀ d ∈ tables_1, d.before a0 Z = true) (ws : List Jvm.Cond) (a1 : Addr) (p2 : Int32) (q3 : Int64) (q4 : Int64) (u_leader_a1 : Value) (u_zxid_a1 : Value) (u_epoch_a1 : Value) (h0 : Heap) (n0 : Nat) (Z0 : n0 ≤ h0.size) (E_a1 : Exa Z h0 a1 "com/example/tacit_quorum/tacitquorum/server/Vote") (F_leader_a1 : Fld Z h0 a1 "com/example/tacit_quorum/tacitquorum/server/Vote" "leader" "I" u_leader_a1) (g_a1 : n0 ≤ a1) (F_zxid_a1 : Fld Z h0 a1 "com/example/tacit_quorum/tacitquorum/server/Vote" "zxid" "J" u_zxid_a1) (F_epoch_a1 : Fld Z h0 a1 "com/example/tacit_quorum/tacitquorum/server/Vote" "epoch" "J" u_epoch_a1) :
    MetFree l (⟨"com/example/tacit_quorum/tacitquorum/server/Vote", "<init>", "(IJJ)V"⟩ : MethodName) (head1 (Jvm.Cond.code (⟨"com/example/tacit_quorum/tacitquorum/server/Vote", "<init>", "(IJJ)V"⟩ : MethodName) prog_48_method_1_code 6 none :: ws) ({ frames := 1, cells := 0, slots := 0, locals := 12 } : Room)) (fun a U => a = #[(.ref a1), (.int p2), (.long q3), (.long q4)] ∧ Z.Warmed39 U.vm ∧ U.heap = h0) (fun _ _ _ _ _ => True) (fun _ U o U' => ∃ v L, o = .returned v ∧ Q1 Z a1 p2 q3 q4 u_leader_a1 u_zxid_a1 u_epoch_a1 h0 n0 v U'.heap L ∧ FrameEnd U o U' L ({ frames := 1, cells := 0, slots := 0, locals := 12 } : Room).cells ({ frames := 1, cells := 0, slots := 0, locals := 12 } : Room).slots) := by
  refine MetFree.of_bodySF (plainFor_of_name pn_1) hisR ?_
  intro p e s m args below meth c s₁ Bd hml0 hP hK
  obtain ⟨rfl, hZ, hh⟩ := hP
  have hx := Bd.exec
  have hby := Bd.bytes
  have hml : c.maxLocals = 6 := hml0
  have hown : s.vm.findClass "com/example/tacit_quorum/tacitquorum/server/Vote" = some m.cls := findClass_of_methodNamed Bd.named
  have hnm := (name_of_methodNamed Bd.named Bd.method).1
  have X0 : Stand p l e ({ frames := 1, cells := 0, slots := 0, locals := 12 } : Room) s m #[(.ref a1), (.int p2), (.long q3), (.long q4)] below meth c s₁ [] 0 0 := Stand.of_body Bd
  have e0 : s₁.heap = h0 := by rw [← hh, Bd.state]; rfl
  have N0 := Fr.nil n0
  apply own_in
  refine own_pre (B := s₁.setTop (mkF m 0 #[.val (.ref a1), .val (.int p2), .val (.long q3), .second, .val (.long q4), .second] [])) (fun t k => castTop (ef_1 m a1 p2 q3 q4) k) ?_
  refine own_pre (B := s₁.setTop (mkF m 1 #[.val (.ref a1), .val (.int p2), .val (.long q3), .second, .val (.long q4), .second] [(.ref a1)])) (fun t k => XS.aloadN X0.here hx rfl (hb hby d1_0) rfl rfl k) ?_
  obtain ⟨T5, X5, e5, st5⟩ := initO X0 hx hZ hown (hw _ (ow 6 rfl)) (hw _ (ow 7 rfl)) (hw _ (ow 8 rfl)) e0 (g := (mkF m 1 #[.val (.ref a1), .val (.int p2), .val (.long q3), .second, .val (.long q4), .second] [(.ref a1)])) rfl (by rw [hml]; rfl) rfl (hb hby d1_1) (by decide) (W := 0) (by show 2 * 0 + _ ≤ _; exact Nat.le_of_eq rfl) (by decide)
  refine own_pre (B := T5.setTop (mkF m 4 #[.val (.ref a1), .val (.int p2), .val (.long q3), .second, .val (.long q4), .second] [])) (fun t k => st5 t k) ?_
  refine own_pre (B := T5.setTop (mkF m 5 #[.val (.ref a1), .val (.int p2), .val (.long q3), .second, .val (.long q4), .second] [(.ref a1)])) (fun t k => XS.aloadN X5.here hx rfl (hb hby d1_4) rfl rfl k) ?_
  refine own_pre (B := T5.setTop (mkF m 6 #[.val (.ref a1), .val (.int p2), .val (.long q3), .second, .val (.long q4), .second] [(.int p2), (.ref a1)])) (fun t k => XS.iloadN X5.here hx rfl (hb hby d1_5) rfl k) ?_
  have K6 : Keep h0 h0 [a1] := (Keep.refl h0 [a1])
  obtain ⟨T7, h7, X7, e7, W7, st7⟩ := putF X5 hx hZ hown (host := "") (Or.inl (hw _ (ow 9 rfl))) Via.refl e5 F_leader_a1 E_a1 (Or.inr ⟨(hw _ (ow 10 rfl)), rfl, hnm⟩) (hw _ (ow 1 rfl)) (ty := .int) (by decide) rfl rfl (g := (mkF m 6 #[.val (.ref a1), .val (.int p2), .val (.long q3), .second, .val (.long q4), .second] [(.int p2), (.ref a1)])) rfl rfl (hb hby d1_6)
  have Fw7 := Fld.same W7 F_leader_a1
  have N7 := Fr.snoc X7 N0 g_a1
  refine own_pre (B := T7.setTop (mkF m 9 #[.val (.ref a1), .val (.int p2), .val (.long q3), .second, .val (.long q4), .second] [])) (fun t k => st7 t k) ?_
  refine own_pre (B := T7.setTop (mkF m 10 #[.val (.ref a1), .val (.int p2), .val (.long q3), .second, .val (.long q4), .second] [(.ref a1)])) (fun t k => XS.aloadN X7.here hx rfl (hb hby d1_9) rfl rfl k) ?_
  refine own_pre (B := T7.setTop (mkF m 11 #[.val (.ref a1), .val (.int p2), .val (.long q3), .second, .val (.long q4), .second] [(.long q3), (.ref a1)])) (fun t k => XS.lloadN X7.here hx rfl (hb hby d1_10) rfl k) ?_
  have c8 := (Exa.wr W7 E_a1)
  have c9 := (Fld.other W7 F_zxid_a1 (Or.inr (slot_ne (Or.inr (hw _ (ow 12 rfl))) (Or.inr (hw _ (ow 10 rfl))) (by decide) (t := .long) (t' := .int) (by decide) (by decide))))
  have K10 : Keep h0 h7 [a1] := (Keep.wr K6 W7 (Or.inl (List.mem_of_getElem? (i := 0) rfl)))
  obtain ⟨T11, h11, X11, e11, W11, st11⟩ := putF X7 hx hZ hown (host := "") (Or.inl (hw _ (ow 11 rfl))) Via.refl e7 c9 c8 (Or.inr ⟨(hw _ (ow 12 rfl)), rfl, hnm⟩) (hw _ (ow 1 rfl)) (ty := .long) (by decide) rfl rfl (g := (mkF m 11 #[.val (.ref a1), .val (.int p2), .val (.long q3), .second, .val (.long q4), .second] [(.long q3), (.ref a1)])) rfl rfl (hb hby d1_11)
  have Fw11 := Fld.same W11 c9
  have N11 := Fr.snoc X11 N7 g_a1
  refine own_pre (B := T11.setTop (mkF m 14 #[.val (.ref a1), .val (.int p2), .val (.long q3), .second, .val (.long q4), .second] [])) (fun t k => st11 t k) ?_
  refine own_pre (B := T11.setTop (mkF m 15 #[.val (.ref a1), .val (.int p2), .val (.long q3), .second, .val (.long q4), .second] [(.ref a1)])) (fun t k => XS.aloadN X11.here hx rfl (hb hby d1_14) rfl rfl k) ?_
  refine own_pre (B := T11.setTop (mkF m 17 #[.val (.ref a1), .val (.int p2), .val (.long q3), .second, .val (.long q4), .second] [(.long q4), (.ref a1)])) (fun t k => XS.lload X11.here hx rfl (hb hby d1_15) rfl k) ?_
  have c12 := (Exa.wr W11 c8)
  have c13 := (Fld.other W11 (Fld.other W7 F_epoch_a1 (Or.inr (slot_ne (Or.inr (hw _ (ow 14 rfl))) (Or.inr (hw _ (ow 10 rfl))) (by decide) (t := .long) (t' := .int) (by decide) (by decide)))) (Or.inr (slot_ne (Or.inr (hw _ (ow 14 rfl))) (Or.inr (hw _ (ow 12 rfl))) (by decide) (t := .long) (t' := .long) (by decide) (by decide))))
  have K14 : Keep h0 h11 [a1] := (Keep.wr K10 W11 (Or.inl (List.mem_of_getElem? (i := 0) rfl)))
  obtain ⟨T15, h15, X15, e15, W15, st15⟩ := putF X11 hx hZ hown (host := "") (Or.inl (hw _ (ow 13 rfl))) Via.refl e11 c13 c12 (Or.inr ⟨(hw _ (ow 14 rfl)), rfl, hnm⟩) (hw _ (ow 1 rfl)) (ty := .long) (by decide) rfl rfl (g := (mkF m 17 #[.val (.ref a1), .val (.int p2), .val (.long q3), .second, .val (.long q4), .second] [(.long q4), (.ref a1)])) rfl rfl (hb hby d1_17)
  have Fw15 := Fld.same W15 c13
  have N15 := Fr.snoc X15 N11 g_a1
  refine own_pre (B := T15.setTop (mkF m 20 #[.val (.ref a1), .val (.int p2), .val (.long q3), .second, .val (.long q4), .second] [])) (fun t k => st15 t k) ?_
  have K16 : Keep h0 h15 [a1] := (Keep.wr K14 W15 (Or.inl (List.mem_of_getElem? (i := 0) rfl)))
  have c17 := (Exa.wr W15 c12)
  have c18 := (Fld.other W15 (Fld.other W11 Fw7 (Or.inr (slot_ne (Or.inr (hw _ (ow 10 rfl))) (Or.inr (hw _ (ow 12 rfl))) (by decide) (t := .int) (t' := .long) (by decide) (by decide)))) (Or.inr (slot_ne (Or.inr (hw _ (ow 10 rfl))) (Or.inr (hw _ (ow 14 rfl))) (by decide) (t := .int) (t' := .long) (by decide) (by decide))))
  have c19 := (Fld.other W15 Fw11 (Or.inr (slot_ne (Or.inr (hw _ (ow 12 rfl))) (Or.inr (hw _ (ow 14 rfl))) (by decide) (t := .long) (t' := .long) (by decide) (by decide))))
  obtain ⟨fsr20, hrr20, hrunr20, hendedr20, hWr20, hsamer20⟩ := X15.leave (v := none) (fun _ => rfl)
  refine ⟨_, _, (X15.returnOut hx Bd.returns (hb hby d1_20) hrr20), hrunr20, hendedr20, _, _, rfl, ?_, ⟨_, rfl⟩, hWr20, hsamer20.mono (by decide) (by decide)⟩
  show Q1 Z a1 p2 q3 q4 u_leader_a1 u_zxid_a1 u_epoch_a1 h0 n0 _ T15.heap _
  rw [e15]
  exact ⟨rfl, N15, K16, c17, c18, c19, Fw15⟩
theorem d6_0 : decode jdk_18_method_1_code 0 = .ok (.aload_n 0, 1) := by decide +kernel
theorem d6_1 : decode jdk_18_method_1_code 1 = .ok (.invokespecial 1, 3) := by decide +kernel
theorem d6_4 : decode jdk_18_method_1_code 4 = .ok (.return_, 1) := by decide +kernel
theorem pn_6 : plainName "java/lang/Number" = true := by first | (simp [plainName, overriddenIn]; done) | decide +kernel
theorem ef_6 (m : MethodId) (x0 : Addr) : entryFrame m #[(.ref x0)] 1 = mkF m 0 #[.val (.ref x0)] [] := by first | (simp [entryFrame, mkF, argsToLocals, Value.category]; done) | rfl
def Q6 (Z : State) (a1 : Addr) (h0 : Heap) (n0 : Nat) (v : Option Value) (h : Heap) (L : List Loc) : Prop := v = none ∧ Fr n0 L ∧ h = h0
set_option maxRecDepth 65536 in
set_option maxHeartbeats 40000000 in
theorem rm6 (l : Launch) (Z : State) (a0 : Array Value) (hw : ∀ d ∈ tables_1, d.before a0 Z = true) (ws : List Jvm.Cond) (a1 : Addr) (h0 : Heap) (n0 : Nat) (Z0 : n0 ≤ h0.size) :
    MetFree l (⟨"java/lang/Number", "<init>", "()V"⟩ : MethodName) (head1 (Jvm.Cond.code (⟨"java/lang/Number", "<init>", "()V"⟩ : MethodName) jdk_18_method_1_code 1 none :: ws) ({ frames := 1, cells := 0, slots := 0, locals := 12 } : Room)) (fun a U => a = #[(.ref a1)] ∧ Z.Warmed39 U.vm ∧ U.heap = h0) (fun _ _ _ _ _ => True) (fun _ U o U' => ∃ v L, o = .returned v ∧ Q6 Z a1 h0 n0 v U'.heap L ∧ FrameEnd U o U' L ({ frames := 1, cells := 0, slots := 0, locals := 12 } : Room).cells ({ frames := 1, cells := 0, slots := 0, locals := 12 } : Room).slots) := by
  refine MetFree.of_bodySF (plainFor_of_name pn_6) hisR ?_
  intro p e s m args below meth c s₁ Bd hml0 hP hK
  obtain ⟨rfl, hZ, hh⟩ := hP
  have hx := Bd.exec
  have hby := Bd.bytes
  have hml : c.maxLocals = 1 := hml0
  have hown : s.vm.findClass "java/lang/Number" = some m.cls := findClass_of_methodNamed Bd.named
  have hnm := (name_of_methodNamed Bd.named Bd.method).1
  have X0 : Stand p l e ({ frames := 1, cells := 0, slots := 0, locals := 12 } : Room) s m #[(.ref a1)] below meth c s₁ [] 0 0 := Stand.of_body Bd
  have e0 : s₁.heap = h0 := by rw [← hh, Bd.state]; rfl
  have N0 := Fr.nil n0
  apply own_in
  refine own_pre (B := s₁.setTop (mkF m 0 #[.val (.ref a1)] [])) (fun t k => castTop (ef_6 m a1) k) ?_
  refine own_pre (B := s₁.setTop (mkF m 1 #[.val (.ref a1)] [(.ref a1)])) (fun t k => XS.aloadN X0.here hx rfl (hb hby d6_0) rfl rfl k) ?_
  obtain ⟨T2, X2, e2, st2⟩ := initO X0 hx hZ hown (hw _ (ow 44 rfl)) (hw _ (ow 7 rfl)) (hw _ (ow 8 rfl)) e0 (g := (mkF m 1 #[.val (.ref a1)] [(.ref a1)])) rfl (by rw [hml]; rfl) rfl (hb hby d6_1) (by decide) (W := 0) (by show 2 * 0 + _ ≤ _; exact Nat.le_of_eq rfl) (by decide)
  refine own_pre (B := T2.setTop (mkF m 4 #[.val (.ref a1)] [])) (fun t k => st2 t k) ?_
  obtain ⟨fsr3, hrr3, hrunr3, hendedr3, hWr3, hsamer3⟩ := X2.leave (v := none) (fun _ => rfl)
  refine ⟨_, _, (X2.returnOut hx Bd.returns (hb hby d6_4) hrr3), hrunr3, hendedr3, _, _, rfl, ?_, ⟨_, rfl⟩, hWr3, hsamer3.mono (by decide) (by decide)⟩
  show Q6 Z a1 h0 n0 _ T2.heap _
  rw [e2]
  exact ⟨rfl, N0, rfl⟩
theorem pd_0 : parseMethodDescriptor "()V" = some ⟨[], none⟩ := by decide +kernel
theorem d5_0 : decode jdk_33_method_23_code 0 = .ok (.aload_n 0, 1) := by decide +kernel
theorem d5_1 : decode jdk_33_method_23_code 1 = .ok (.invokespecial 202, 3) := by decide +kernel
theorem d5_4 : decode jdk_33_method_23_code 4 = .ok (.aload_n 0, 1) := by decide +kernel
theorem d5_5 : decode jdk_33_method_23_code 5 = .ok (.iload_n 1, 1) := by decide +kernel
theorem d5_6 : decode jdk_33_method_23_code 6 = .ok (.putfield 205, 3) := by decide +kernel
theorem d5_9 : decode jdk_33_method_23_code 9 = .ok (.return_, 1) := by decide +kernel
theorem pn_5 : plainName "java/lang/Integer" = true := by first | (simp [plainName, overriddenIn]; done) | decide +kernel
theorem ef_5 (m : MethodId) (x0 : Addr) (x1 : Int32) : entryFrame m #[(.ref x0), (.int x1)] 2 = mkF m 0 #[.val (.ref x0), .val (.int x1)] [] := by first | (simp [entryFrame, mkF, argsToLocals, Value.category]; done) | rfl
def Q5 (Z : State) (a1 : Addr) (p2 : Int32) (u_value_a1 : Value) (h0 : Heap) (n0 : Nat) (v : Option Value) (h : Heap) (L : List Loc) : Prop := v = none ∧ Fr n0 L ∧ Keep h0 h [a1] ∧ Exa Z h a1 "java/lang/Integer" ∧ Fld Z h a1 "java/lang/Integer" "value" "I" (.int p2)
set_option maxRecDepth 65536 in
set_option maxHeartbeats 40000000 in
theorem rm5 (l : Launch) (Z : State) (a0 : Array Value) (hw : ∀ d ∈ tables_1, d.before a0 Z = true) (ws : List Jvm.Cond) (a1 : Addr) (p2 : Int32) (u_value_a1 : Value) (h0 : Heap) (n0 : Nat) (Z0 : n0 ≤ h0.size) (E_a1 : Exa Z h0 a1 "java/lang/Integer") (F_value_a1 : Fld Z h0 a1 "java/lang/Integer" "value" "I" u_value_a1) (g_a1 : n0 ≤ a1) :
    MetFree l (⟨"java/lang/Integer", "<init>", "(I)V"⟩ : MethodName) (head1 (Jvm.Cond.code (⟨"java/lang/Integer", "<init>", "(I)V"⟩ : MethodName) jdk_33_method_23_code 2 none :: ws) ({ frames := 2, cells := 0, slots := 0, locals := 24 } : Room)) (fun a U => a = #[(.ref a1), (.int p2)] ∧ Z.Warmed39 U.vm ∧ U.heap = h0) (fun _ _ _ _ _ => True) (fun _ U o U' => ∃ v L, o = .returned v ∧ Q5 Z a1 p2 u_value_a1 h0 n0 v U'.heap L ∧ FrameEnd U o U' L ({ frames := 2, cells := 0, slots := 0, locals := 24 } : Room).cells ({ frames := 2, cells := 0, slots := 0, locals := 24 } : Room).slots) := by
  refine MetFree.of_bodySF (plainFor_of_name pn_5) hisR ?_
  intro p e s m args below meth c s₁ Bd hml0 hP hK
  obtain ⟨rfl, hZ, hh⟩ := hP
  have hx := Bd.exec
  have hby := Bd.bytes
  have hml : c.maxLocals = 2 := hml0
  have hown : s.vm.findClass "java/lang/Integer" = some m.cls := findClass_of_methodNamed Bd.named
  have hnm := (name_of_methodNamed Bd.named Bd.method).1
  have X0 : Stand p l e ({ frames := 2, cells := 0, slots := 0, locals := 24 } : Room) s m #[(.ref a1), (.int p2)] below meth c s₁ [] 0 0 := Stand.of_body Bd
  have e0 : s₁.heap = h0 := by rw [← hh, Bd.state]; rfl
  have N0 := Fr.nil n0
  apply own_in
  refine own_pre (B := s₁.setTop (mkF m 0 #[.val (.ref a1), .val (.int p2)] [])) (fun t k => castTop (ef_5 m a1 p2) k) ?_
  refine own_pre (B := s₁.setTop (mkF m 1 #[.val (.ref a1), .val (.int p2)] [(.ref a1)])) (fun t k => XS.aloadN X0.here hx rfl (hb hby d5_0) rfl rfl k) ?_
  obtain ⟨_, _, ⟨T3, L3, k3, n3⟩, -, X3, ⟨Lc3, hQ3, l3, y3, z3⟩, st3⟩ := X0.specialBack hx (y := (⟨"java/lang/Number", "<init>", "()V"⟩ : MethodName)) rfl hown (mvT hZ (hw _ (ow 38 rfl))) (mvT hZ (hw _ (ow 39 rfl))) (mvT hZ (hw _ (ow 43 rfl))) (by decide) (backOf (W := 0) (rm6 l Z a0 hw [] a1 h0 n0 Z0 ) hZ (hw _ (ow 43 rfl)) (hw _ (ow 42 rfl)) (by decide) (by decide)) (g := (mkF m 1 #[.val (.ref a1), .val (.int p2)] [(.ref a1)])) rfl (by rw [hml]; rfl) (Steps.refl _) (a := a1) (argsL := []) (rest := []) (lenOf pd_0 rfl) rfl (by show 2 * 0 + _ ≤ _; exact Nat.le_of_eq rfl) (hb hby d5_1) (fun _ _ => ⟨rfl, e0, (by decide : 0 + 0 ≤ _), (by decide : 0 + 0 ≤ _)⟩)
  dsimp only [Pt.U, Pt.locs, Pt.cells, Pt.slots] at X3 l3 y3 z3 st3 hQ3
  subst l3 y3 z3
  obtain ⟨rfl, N3q, e3⟩ := hQ3
  have N3 := Fr.app N0 N3q
  refine own_pre (B := T3.setTop (mkF m 4 #[.val (.ref a1), .val (.int p2)] [])) (fun t k => st3.trans k) ?_
  refine own_pre (B := T3.setTop (mkF m 5 #[.val (.ref a1), .val (.int p2)] [(.ref a1)])) (fun t k => XS.aloadN X3.here hx rfl (hb hby d5_4) rfl rfl k) ?_
  refine own_pre (B := T3.setTop (mkF m 6 #[.val (.ref a1), .val (.int p2)] [(.int p2), (.ref a1)])) (fun t k => XS.iloadN X3.here hx rfl (hb hby d5_5) rfl k) ?_
  have K4 : Keep h0 h0 [a1] := (Keep.refl h0 [a1])
  obtain ⟨T5, h5, X5, e5, W5, st5⟩ := putF X3 hx hZ hown (host := "") (Or.inl (hw _ (ow 45 rfl))) Via.refl e3 F_value_a1 E_a1 (Or.inr ⟨(hw _ (ow 46 rfl)), rfl, hnm⟩) (hw _ (ow 33 rfl)) (ty := .int) (by decide) rfl rfl (g := (mkF m 6 #[.val (.ref a1), .val (.int p2)] [(.int p2), (.ref a1)])) rfl rfl (hb hby d5_6)
  have Fw5 := Fld.same W5 F_value_a1
  have N5 := Fr.snoc X5 N3 g_a1
  refine own_pre (B := T5.setTop (mkF m 9 #[.val (.ref a1), .val (.int p2)] [])) (fun t k => st5 t k) ?_
  have K6 : Keep h0 h5 [a1] := (Keep.wr K4 W5 (Or.inl (List.mem_of_getElem? (i := 0) rfl)))
  have c7 := (Exa.wr W5 E_a1)
  obtain ⟨fsr8, hrr8, hrunr8, hendedr8, hWr8, hsamer8⟩ := X5.leave (v := none) (fun _ => rfl)
  refine ⟨_, _, (X5.returnOut hx Bd.returns (hb hby d5_9) hrr8), hrunr8, hendedr8, _, _, rfl, ?_, ⟨_, rfl⟩, hWr8, hsamer8.mono (by decide) (by decide)⟩
  show Q5 Z a1 p2 u_value_a1 h0 n0 _ T5.heap _
  rw [e5]
  exact ⟨rfl, N5, K6, c7, Fw5⟩
theorem pd_1 : parseMethodDescriptor "(I)V" = some ⟨[.int], none⟩ := by decide +kernel
theorem d3_0 : decode jdk_33_method_22_code 0 = .ok (.iload_n 0, 1) := by decide +kernel
theorem d3_1 : decode jdk_33_method_22_code 1 = .ok (.bipush (-128), 2) := by decide +kernel
theorem d3_3 : decode jdk_33_method_22_code 3 = .ok (.if_icmp .lt 20, 3) := by decide +kernel
theorem d3_6 : decode jdk_33_method_22_code 6 = .ok (.iload_n 0, 1) := by decide +kernel
theorem d3_7 : decode jdk_33_method_22_code 7 = .ok (.getstatic 191, 3) := by decide +kernel
theorem d3_10 : decode jdk_33_method_22_code 10 = .ok (.if_icmp .gt 13, 3) := by decide +kernel
theorem d3_13 : decode jdk_33_method_22_code 13 = .ok (.getstatic 195, 3) := by decide +kernel
theorem d3_16 : decode jdk_33_method_22_code 16 = .ok (.iload_n 0, 1) := by decide +kernel
theorem d3_17 : decode jdk_33_method_22_code 17 = .ok (.sipush 128, 3) := by decide +kernel
theorem d3_20 : decode jdk_33_method_22_code 20 = .ok (.iadd, 1) := by decide +kernel
theorem d3_21 : decode jdk_33_method_22_code 21 = .ok (.aaload, 1) := by decide +kernel
theorem d3_22 : decode jdk_33_method_22_code 22 = .ok (.areturn, 1) := by decide +kernel
theorem d3_23 : decode jdk_33_method_22_code 23 = .ok (.new 1, 3) := by decide +kernel
theorem d3_26 : decode jdk_33_method_22_code 26 = .ok (.dup, 1) := by decide +kernel
theorem d3_27 : decode jdk_33_method_22_code 27 = .ok (.iload_n 0, 1) := by decide +kernel
theorem d3_28 : decode jdk_33_method_22_code 28 = .ok (.invokespecial 199, 3) := by decide +kernel
theorem d3_31 : decode jdk_33_method_22_code 31 = .ok (.areturn, 1) := by decide +kernel
theorem pn_3 : plainName "java/lang/Integer" = true := by first | (simp [plainName, overriddenIn]; done) | decide +kernel
theorem ef_3 (m : MethodId) (x0 : Int32) : entryFrame m #[(.int x0)] 1 = mkF m 0 #[.val (.int x0)] [] := by first | (simp [entryFrame, mkF, argsToLocals, Value.category]; done) | rfl
def Q3 (Z : State) (p1 : Int32) (ca : Addr) (cc : Cell) (h0 : Heap) (n0 : Nat) (v : Option Value) (h : Heap) (L : List Loc) : Prop := ∃ b : Addr, v = some (.ref b) ∧ Fr n0 L ∧ Keep h0 h [] ∧ Exa Z h b "java/lang/Integer"
set_option maxRecDepth 65536 in
set_option maxHeartbeats 40000000 in
theorem rm3 (l : Launch) (Z : State) (a0 : Array Value) (hw : ∀ d ∈ tables_1, d.before a0 Z = true) (ws : List Jvm.Cond) (p1 : Int32) (ca : Addr) (cc : Cell) (h0 : Heap) (n0 : Nat) (Z0 : n0 ≤ h0.size) (O0 : Old Z n0 h0) (SC : Sta Z Z.heap "java/lang/Integer$IntegerCache" "cache" "[Ljava/lang/Integer;" (.ref ca)) (SH : Sta Z Z.heap "java/lang/Integer$IntegerCache" "high" "I" (.int (127 : Int32))) (AC : Arr Z Z.heap ca cc (.object "java/lang/Integer")) (SZ256 : cc.slots.size = 256) (EL : ∀ j, j < 256 → ∃ r, cc.slots[j]? = some (.ref r) ∧ Exa Z Z.heap r "java/lang/Integer") :
    MetFree l (⟨"java/lang/Integer", "valueOf", "(I)Ljava/lang/Integer;"⟩ : MethodName) (head1 (Jvm.Cond.code (⟨"java/lang/Integer", "valueOf", "(I)Ljava/lang/Integer;"⟩ : MethodName) jdk_33_method_22_code 1 (some (.object "java/lang/Integer")) :: ws) ({ frames := 3, cells := 1, slots := 1, locals := 38 } : Room)) (fun a U => a = #[(.int p1)] ∧ Z.Warmed39 U.vm ∧ U.heap = h0) (fun _ _ _ _ _ => True) (fun _ U o U' => ∃ v L, o = .returned v ∧ Q3 Z p1 ca cc h0 n0 v U'.heap L ∧ FrameEnd U o U' L ({ frames := 3, cells := 1, slots := 1, locals := 38 } : Room).cells ({ frames := 3, cells := 1, slots := 1, locals := 38 } : Room).slots) := by
  refine MetFree.of_bodySF (plainFor_of_name pn_3) hisR ?_
  intro p e s m args below meth c s₁ Bd hml0 hP hK
  obtain ⟨rfl, hZ, hh⟩ := hP
  have hx := Bd.exec
  have hby := Bd.bytes
  have hml : c.maxLocals = 1 := hml0
  have hown : s.vm.findClass "java/lang/Integer" = some m.cls := findClass_of_methodNamed Bd.named
  have hnm := (name_of_methodNamed Bd.named Bd.method).1
  have X0 : Stand p l e ({ frames := 3, cells := 1, slots := 1, locals := 38 } : Room) s m #[(.int p1)] below meth c s₁ [] 0 0 := Stand.of_body Bd
  have e0 : s₁.heap = h0 := by rw [← hh, Bd.state]; rfl
  have N0 := Fr.nil n0
  apply own_in
  refine own_pre (B := s₁.setTop (mkF m 0 #[.val (.int p1)] [])) (fun t k => castTop (ef_3 m p1) k) ?_
  refine own_pre (B := s₁.setTop (mkF m 1 #[.val (.int p1)] [(.int p1)])) (fun t k => XS.iloadN X0.here hx rfl (hb hby d3_0) rfl k) ?_
  refine own_pre (B := s₁.setTop (mkF m 3 #[.val (.int p1)] [(.int (-128 : Int32)), (.int p1)])) (fun t k => XS.bipush X0.here hx rfl (hb hby d3_1) k) ?_
  by_cases hc3_2 : p1 < (-128 : Int32)
  · refine own_pre (B := s₁.setTop (mkF m 23 #[.val (.int p1)] [])) (fun t k => XS.icmpYes X0.here hx rfl (pc0 := 3) (pc' := 23) rfl (hb hby d3_3) rfl (tlt hc3_2).1 (by decide) (by decide) k) ?_
    have K3 : Keep h0 h0 [] := (Keep.refl h0 [])
    obtain ⟨T4, h4, X4, e4, E4, A4, D4, -, st4⟩ := newO X0 hx hZ hown (hw _ (ow 32 rfl)) (hw _ (ow 33 rfl)) (hw _ (ow 17 rfl)) e0 (g := (mkF m 23 #[.val (.int p1)] [])) rfl (hb hby d3_23) (by decide) (by decide)
    obtain ⟨b4, g4⟩ : ∃ z, z = h0.size := ⟨_, rfl⟩
    rw [← g4] at A4 D4 st4
    have g_b4 : n0 ≤ b4 := Nat.le_trans Z0 (Nat.le_of_eq g4.symm)
    have s_b4 : h0.size ≤ b4 := Nat.le_trans K3.1 (Nat.le_of_eq g4.symm)
    have F_value_b4 : Fld Z h4 b4 "java/lang/Integer" "value" "I" (.int (0 : Int32)) := D4 (Or.inr (hw _ (ow 46 rfl))) (ty := .int) (by decide)
    refine own_pre (B := T4.setTop (mkF m 26 #[.val (.int p1)] [(.ref b4)])) (fun t k => st4 t k) ?_
    refine own_pre (B := T4.setTop (mkF m 27 #[.val (.int p1)] [(.ref b4), (.ref b4)])) (fun t k => XS.dup X4.here hx rfl (hb hby d3_26) rfl rfl k) ?_
    refine own_pre (B := T4.setTop (mkF m 28 #[.val (.int p1)] [(.int p1), (.ref b4), (.ref b4)])) (fun t k => XS.iloadN X4.here hx rfl (hb hby d3_27) rfl k) ?_
    have sz5 : n0 ≤ h4.size := (Nat.le_trans Z0 E4.1)
    obtain ⟨_, _, ⟨T6, L6, k6, n6⟩, -, X6, ⟨Lc6, hQ6, l6, y6, z6⟩, st6⟩ := X4.specialBack hx (y := (⟨"java/lang/Integer", "<init>", "(I)V"⟩ : MethodName)) rfl hown (mvT hZ (hw _ (ow 34 rfl))) (mvT hZ (hw _ (ow 35 rfl))) (mvT hZ (hw _ (ow 37 rfl))) (by decide) (backOf (W := 1) (rm5 l Z a0 hw [] b4 p1 (.int (0 : Int32)) h4 n0 sz5 A4 F_value_b4 g_b4) hZ (hw _ (ow 37 rfl)) (hw _ (ow 17 rfl)) (by decide) (by decide)) (g := (mkF m 28 #[.val (.int p1)] [(.int p1), (.ref b4), (.ref b4)])) rfl (by rw [hml]; rfl) (Steps.refl _) (a := b4) (argsL := [(.int p1)]) (rest := [(.ref b4)]) (lenOf pd_1 rfl) rfl (by show 2 * 0 + _ ≤ _; exact Nat.le_of_eq rfl) (hb hby d3_28) (fun _ _ => ⟨rfl, e4, (by decide : 1 + 0 ≤ _), (by decide : 1 + 0 ≤ _)⟩)
    dsimp only [Pt.U, Pt.locs, Pt.cells, Pt.slots] at X6 l6 y6 z6 st6 hQ6
    subst l6 y6 z6
    obtain ⟨rfl, N6q, K6, q6_0, q6_1⟩ := hQ6
    have N6 := Fr.app N0 N6q
    have K7 : Keep h0 h4 [] := (Keep.ext K3 E4)
    refine own_pre (B := T6.setTop (mkF m 31 #[.val (.int p1)] [(.ref b4)])) (fun t k => st6.trans k) ?_
    have K8 : Keep h0 T6.heap [] := (Keep.trans K7 K6 (allS (P := fun x => x ∈ [] ∨ h0.size ≤ x) (Or.inr s_b4) all0))
    obtain ⟨fsr9, hrr9, hrunr9, hendedr9, hWr9, hsamer9⟩ := X6.leave (v := some (.ref b4)) (fun h => by rw [Bd.returns] at h; cases h)
    refine ⟨_, _, (retOut X6 hx (i := .areturn) Bd.returns rfl (Or.inr (Or.inr (Or.inr (Or.inr ⟨rfl, rfl, rfl⟩)))) (hb hby d3_31) hrr9), hrunr9, hendedr9, _, _, rfl, ?_, ⟨_, rfl⟩, hWr9, hsamer9.mono (by decide) (by decide)⟩
    show Q3 Z p1 ca cc h0 n0 _ T6.heap _
    exact ⟨b4, rfl, N6, K8, q6_0⟩
  · refine own_pre (B := s₁.setTop (mkF m 6 #[.val (.int p1)] [])) (fun t k => XS.icmpNo X0.here hx rfl (hb hby d3_3) rfl (flt hc3_2).1 k) ?_
    refine own_pre (B := s₁.setTop (mkF m 7 #[.val (.int p1)] [(.int p1)])) (fun t k => XS.iloadN X0.here hx rfl (hb hby d3_6) rfl k) ?_
    obtain ⟨T10, X10, e10, st10⟩ := getS2 X0 hx hZ hown (host := "") (Or.inl (hw _ (ow 19 rfl))) Via.refl e0 (Sta.ext O0.2 SH) (g := (mkF m 7 #[.val (.int p1)] [(.int p1)])) rfl (hb hby d3_7)
    refine own_pre (B := T10.setTop (mkF m 10 #[.val (.int p1)] [(.int (127 : Int32)), (.int p1)])) (fun t k => st10 t k) ?_
    by_cases hc10_11 : (127 : Int32) < p1
    · refine own_pre (B := T10.setTop (mkF m 23 #[.val (.int p1)] [])) (fun t k => XS.icmpYes X10.here hx rfl (pc0 := 10) (pc' := 23) rfl (hb hby d3_10) rfl (tlt hc10_11).2.2.1 (by decide) (by decide) k) ?_
      have K12 : Keep h0 h0 [] := (Keep.refl h0 [])
      obtain ⟨T13, h13, X13, e13, E13, A13, D13, -, st13⟩ := newO X10 hx hZ hown (hw _ (ow 32 rfl)) (hw _ (ow 33 rfl)) (hw _ (ow 17 rfl)) e10 (g := (mkF m 23 #[.val (.int p1)] [])) rfl (hb hby d3_23) (by decide) (by decide)
      obtain ⟨b13, g13⟩ : ∃ z, z = h0.size := ⟨_, rfl⟩
      rw [← g13] at A13 D13 st13
      have g_b13 : n0 ≤ b13 := Nat.le_trans Z0 (Nat.le_of_eq g13.symm)
      have s_b13 : h0.size ≤ b13 := Nat.le_trans K12.1 (Nat.le_of_eq g13.symm)
      have F_value_b13 : Fld Z h13 b13 "java/lang/Integer" "value" "I" (.int (0 : Int32)) := D13 (Or.inr (hw _ (ow 46 rfl))) (ty := .int) (by decide)
      refine own_pre (B := T13.setTop (mkF m 26 #[.val (.int p1)] [(.ref b13)])) (fun t k => st13 t k) ?_
      refine own_pre (B := T13.setTop (mkF m 27 #[.val (.int p1)] [(.ref b13), (.ref b13)])) (fun t k => XS.dup X13.here hx rfl (hb hby d3_26) rfl rfl k) ?_
      refine own_pre (B := T13.setTop (mkF m 28 #[.val (.int p1)] [(.int p1), (.ref b13), (.ref b13)])) (fun t k => XS.iloadN X13.here hx rfl (hb hby d3_27) rfl k) ?_
      have sz14 : n0 ≤ h13.size := (Nat.le_trans Z0 E13.1)
      obtain ⟨_, _, ⟨T15, L15, k15, n15⟩, -, X15, ⟨Lc15, hQ15, l15, y15, z15⟩, st15⟩ := X13.specialBack hx (y := (⟨"java/lang/Integer", "<init>", "(I)V"⟩ : MethodName)) rfl hown (mvT hZ (hw _ (ow 34 rfl))) (mvT hZ (hw _ (ow 35 rfl))) (mvT hZ (hw _ (ow 37 rfl))) (by decide) (backOf (W := 1) (rm5 l Z a0 hw [] b13 p1 (.int (0 : Int32)) h13 n0 sz14 A13 F_value_b13 g_b13) hZ (hw _ (ow 37 rfl)) (hw _ (ow 17 rfl)) (by decide) (by decide)) (g := (mkF m 28 #[.val (.int p1)] [(.int p1), (.ref b13), (.ref b13)])) rfl (by rw [hml]; rfl) (Steps.refl _) (a := b13) (argsL := [(.int p1)]) (rest := [(.ref b13)]) (lenOf pd_1 rfl) rfl (by show 2 * 0 + _ ≤ _; exact Nat.le_of_eq rfl) (hb hby d3_28) (fun _ _ => ⟨rfl, e13, (by decide : 1 + 0 ≤ _), (by decide : 1 + 0 ≤ _)⟩)
      dsimp only [Pt.U, Pt.locs, Pt.cells, Pt.slots] at X15 l15 y15 z15 st15 hQ15
      subst l15 y15 z15
      obtain ⟨rfl, N15q, K15, q15_0, q15_1⟩ := hQ15
      have N15 := Fr.app N0 N15q
      have K16 : Keep h0 h13 [] := (Keep.ext K12 E13)
      refine own_pre (B := T15.setTop (mkF m 31 #[.val (.int p1)] [(.ref b13)])) (fun t k => st15.trans k) ?_
      have K17 : Keep h0 T15.heap [] := (Keep.trans K16 K15 (allS (P := fun x => x ∈ [] ∨ h0.size ≤ x) (Or.inr s_b13) all0))
      obtain ⟨fsr18, hrr18, hrunr18, hendedr18, hWr18, hsamer18⟩ := X15.leave (v := some (.ref b13)) (fun h => by rw [Bd.returns] at h; cases h)
      refine ⟨_, _, (retOut X15 hx (i := .areturn) Bd.returns rfl (Or.inr (Or.inr (Or.inr (Or.inr ⟨rfl, rfl, rfl⟩)))) (hb hby d3_31) hrr18), hrunr18, hendedr18, _, _, rfl, ?_, ⟨_, rfl⟩, hWr18, hsamer18.mono (by decide) (by decide)⟩
      show Q3 Z p1 ca cc h0 n0 _ T15.heap _
      exact ⟨b13, rfl, N15, K17, q15_0⟩
    · refine own_pre (B := T10.setTop (mkF m 13 #[.val (.int p1)] [])) (fun t k => XS.icmpNo X10.here hx rfl (hb hby d3_10) rfl (flt hc10_11).2.2.1 k) ?_
      obtain ⟨T19, X19, e19, st19⟩ := getS2 X10 hx hZ hown (host := "") (Or.inl (hw _ (ow 21 rfl))) Via.refl e10 (Sta.ext O0.2 SC) (g := (mkF m 13 #[.val (.int p1)] [])) rfl (hb hby d3_13)
      refine own_pre (B := T19.setTop (mkF m 16 #[.val (.int p1)] [(.ref ca)])) (fun t k => st19 t k) ?_
      refine own_pre (B := T19.setTop (mkF m 17 #[.val (.int p1)] [(.int p1), (.ref ca)])) (fun t k => XS.iloadN X19.here hx rfl (hb hby d3_16) rfl k) ?_
      refine own_pre (B := T19.setTop (mkF m 20 #[.val (.int p1)] [(.int (128 : Int32)), (.int p1), (.ref ca)])) (fun t k => XS.sipush X19.here hx rfl (hb hby d3_17) k) ?_
      refine own_pre (B := T19.setTop (mkF m 21 #[.val (.int p1)] [(.int (p1 + (128 : Int32))), (.ref ca)])) (fun t k => XS.iadd X19.here hx rfl (hb hby d3_20) rfl k) ?_
      have pk20 := IntBox.place_ok p1 hc3_2 hc10_11
      obtain ⟨r20, hr20, Er20⟩ := EL _ pk20.2
      have hin20 := pk20.1
      rw [← SZ256] at hin20
      have Ax20 := Arr.ext O0.2 AC
      refine own_pre (B := T19.setTop (mkF m 22 #[.val (.int p1)] [(.ref r20)])) (fun t k => X19.aaload hx (j := (p1 + (128 : Int32))) (v := (.ref r20)) (by rw [e19]; exact Ax20.1) (State.isArrayOf_alike hZ.alike Ax20.2.1) rfl Ax20.2.2 hin20 hr20 (g := (mkF m 21 #[.val (.int p1)] [(.int (p1 + (128 : Int32))), (.ref ca)])) rfl rfl (hb hby d3_21) t k) ?_
      have K21 : Keep h0 h0 [] := (Keep.refl h0 [])
      obtain ⟨fsr22, hrr22, hrunr22, hendedr22, hWr22, hsamer22⟩ := X19.leave (v := some (.ref r20)) (fun h => by rw [Bd.returns] at h; cases h)
      refine ⟨_, _, (retOut X19 hx (i := .areturn) Bd.returns rfl (Or.inr (Or.inr (Or.inr (Or.inr ⟨rfl, rfl, rfl⟩)))) (hb hby d3_22) hrr22), hrunr22, hendedr22, _, _, rfl, ?_, ⟨_, rfl⟩, hWr22, hsamer22.mono (by decide) (by decide)⟩
      show Q3 Z p1 ca cc h0 n0 _ T19.heap _
      rw [e19]
      exact ⟨r20, rfl, N0, K21, (Exa.ext O0.2 Er20)⟩
theorem d4_0 : decode prog_48_method_7_code 0 = .ok (.aload_n 1, 1) := by decide +kernel
theorem d4_1 : decode prog_48_method_7_code 1 = .ok (.instanceof 8, 3) := by decide +kernel
theorem d4_4 : decode prog_48_method_7_code 4 = .ok (.ifCond .eq 47, 3) := by decide +kernel
theorem d4_7 : decode prog_48_method_7_code 7 = .ok (.aload_n 1, 1) := by decide +kernel
theorem d4_8 : decode prog_48_method_7_code 8 = .ok (.checkcast 8, 3) := by decide +kernel
theorem d4_11 : decode prog_48_method_7_code 11 = .ok (.astore_n 2, 1) := by decide +kernel
theorem d4_12 : decode prog_48_method_7_code 12 = .ok (.aload_n 0, 1) := by decide +kernel
theorem d4_13 : decode prog_48_method_7_code 13 = .ok (.getfield 7, 3) := by decide +kernel
theorem d4_16 : decode prog_48_method_7_code 16 = .ok (.aload_n 2, 1) := by decide +kernel
theorem d4_17 : decode prog_48_method_7_code 17 = .ok (.getfield 7, 3) := by decide +kernel
theorem d4_20 : decode prog_48_method_7_code 20 = .ok (.if_icmp .ne 31, 3) := by decide +kernel
theorem d4_23 : decode prog_48_method_7_code 23 = .ok (.aload_n 0, 1) := by decide +kernel
theorem d4_24 : decode prog_48_method_7_code 24 = .ok (.getfield 13, 3) := by decide +kernel
theorem d4_27 : decode prog_48_method_7_code 27 = .ok (.aload_n 2, 1) := by decide +kernel
theorem d4_28 : decode prog_48_method_7_code 28 = .ok (.getfield 13, 3) := by decide +kernel
theorem d4_31 : decode prog_48_method_7_code 31 = .ok (.lcmp, 1) := by decide +kernel
theorem d4_32 : decode prog_48_method_7_code 32 = .ok (.ifCond .ne 19, 3) := by decide +kernel
theorem d4_35 : decode prog_48_method_7_code 35 = .ok (.aload_n 0, 1) := by decide +kernel
theorem d4_36 : decode prog_48_method_7_code 36 = .ok (.getfield 17, 3) := by decide +kernel
theorem d4_39 : decode prog_48_method_7_code 39 = .ok (.aload_n 2, 1) := by decide +kernel
theorem d4_40 : decode prog_48_method_7_code 40 = .ok (.getfield 17, 3) := by decide +kernel
theorem d4_43 : decode prog_48_method_7_code 43 = .ok (.lcmp, 1) := by decide +kernel
theorem d4_44 : decode prog_48_method_7_code 44 = .ok (.ifCond .ne 7, 3) := by decide +kernel
theorem d4_47 : decode prog_48_method_7_code 47 = .ok (.iconst 1, 1) := by decide +kernel
theorem d4_48 : decode prog_48_method_7_code 48 = .ok (.goto 4, 3) := by decide +kernel
theorem d4_51 : decode prog_48_method_7_code 51 = .ok (.iconst 0, 1) := by decide +kernel
theorem d4_52 : decode prog_48_method_7_code 52 = .ok (.ireturn, 1) := by decide +kernel
theorem pn_4 : plainName "com/example/tacit_quorum/tacitquorum/server/Vote" = true := by first | (simp [plainName, overriddenIn]; done) | decide +kernel
theorem ef_4 (m : MethodId) (x0 : Addr) (x1 : Addr) : entryFrame m #[(.ref x0), (.ref x1)] 3 = mkF m 0 #[.val (.ref x0), .val (.ref x1), .unset] [] := by first | (simp [entryFrame, mkF, argsToLocals, Value.category]; done) | rfl
def own_f4 (w_leader_a1 : Int32) (w_leader_a2 : Int32) (w_zxid_a1 : Int64) (w_zxid_a2 : Int64) (w_epoch_a1 : Int64) (w_epoch_a2 : Int64) : Int32 := (if w_leader_a1 = w_leader_a2 then (if w_zxid_a1 = w_zxid_a2 then (if w_epoch_a1 = w_epoch_a2 then (1 : Int32) else (0 : Int32)) else (0 : Int32)) else (0 : Int32))
def Q4 (Z : State) (a1 : Addr) (a2 : Addr) (w_leader_a1 : Int32) (w_leader_a2 : Int32) (w_zxid_a1 : Int64) (w_zxid_a2 : Int64) (w_epoch_a1 : Int64) (w_epoch_a2 : Int64) (h0 : Heap) (n0 : Nat) (v : Option Value) (h : Heap) (L : List Loc) : Prop := v = some (.int (own_f4 w_leader_a1 w_leader_a2 w_zxid_a1 w_zxid_a2 w_epoch_a1 w_epoch_a2)) ∧ Fr n0 L ∧ h = h0
set_option maxRecDepth 65536 in
set_option maxHeartbeats 40000000 in
theorem rm4 (l : Launch) (Z : State) (a0 : Array Value) (hw : ∀ d ∈ tables_1, d.before a0 Z = true) (ws : List Jvm.Cond) (a1 : Addr) (a2 : Addr) (w_leader_a1 : Int32) (w_leader_a2 : Int32) (w_zxid_a1 : Int64) (w_zxid_a2 : Int64) (w_epoch_a1 : Int64) (w_epoch_a2 : Int64) (h0 : Heap) (n0 : Nat) (Z0 : n0 ≤ h0.size) (E_a2 : Exa Z h0 a2 "com/example/tacit_quorum/tacitquorum/server/Vote") (F_leader_a1 : Fld Z h0 a1 "com/example/tacit_quorum/tacitquorum/server/Vote" "leader" "I" (.int w_leader_a1)) (F_leader_a2 : Fld Z h0 a2 "com/example/tacit_quorum/tacitquorum/server/Vote" "leader" "I" (.int w_leader_a2)) (F_zxid_a1 : Fld Z h0 a1 "com/example/tacit_quorum/tacitquorum/server/Vote" "zxid" "J" (.long w_zxid_a1)) (F_zxid_a2 : Fld Z h0 a2 "com/example/tacit_quorum/tacitquorum/server/Vote" "zxid" "J" (.long w_zxid_a2)) (F_epoch_a1 : Fld Z h0 a1 "com/example/tacit_quorum/tacitquorum/server/Vote" "epoch" "J" (.long w_epoch_a1)) (F_epoch_a2 : Fld Z h0 a2 "com/example/tacit_quorum/tacitquorum/server/Vote" "epoch" "J" (.long w_epoch_a2)) :
    MetFree l (⟨"com/example/tacit_quorum/tacitquorum/server/Vote", "equals", "(Ljava/lang/Object;)Z"⟩ : MethodName) (head1 (Jvm.Cond.code (⟨"com/example/tacit_quorum/tacitquorum/server/Vote", "equals", "(Ljava/lang/Object;)Z"⟩ : MethodName) prog_48_method_7_code 3 (some .boolean) :: ws) ({ frames := 0, cells := 0, slots := 0, locals := 0 } : Room)) (fun a U => a = #[(.ref a1), (.ref a2)] ∧ Z.Warmed39 U.vm ∧ U.heap = h0) (fun _ _ _ _ _ => True) (fun _ U o U' => ∃ v L, o = .returned v ∧ Q4 Z a1 a2 w_leader_a1 w_leader_a2 w_zxid_a1 w_zxid_a2 w_epoch_a1 w_epoch_a2 h0 n0 v U'.heap L ∧ FrameEnd U o U' L ({ frames := 0, cells := 0, slots := 0, locals := 0 } : Room).cells ({ frames := 0, cells := 0, slots := 0, locals := 0 } : Room).slots) := by
  refine MetFree.of_bodySF (plainFor_of_name pn_4) hisR ?_
  intro p e s m args below meth c s₁ Bd hml0 hP hK
  obtain ⟨rfl, hZ, hh⟩ := hP
  have hx := Bd.exec
  have hby := Bd.bytes
  have hml : c.maxLocals = 3 := hml0
  have hown : s.vm.findClass "com/example/tacit_quorum/tacitquorum/server/Vote" = some m.cls := findClass_of_methodNamed Bd.named
  have hnm := (name_of_methodNamed Bd.named Bd.method).1
  have X0 : Stand p l e ({ frames := 0, cells := 0, slots := 0, locals := 0 } : Room) s m #[(.ref a1), (.ref a2)] below meth c s₁ [] 0 0 := Stand.of_body Bd
  have e0 : s₁.heap = h0 := by rw [← hh, Bd.state]; rfl
  have N0 := Fr.nil n0
  apply own_in
  refine own_pre (B := s₁.setTop (mkF m 0 #[.val (.ref a1), .val (.ref a2), .unset] [])) (fun t k => castTop (ef_4 m a1 a2) k) ?_
  refine own_pre (B := s₁.setTop (mkF m 1 #[.val (.ref a1), .val (.ref a2), .unset] [(.ref a2)])) (fun t k => XS.aloadN X0.here hx rfl (hb hby d4_0) rfl rfl k) ?_
  obtain ⟨T3, X3, e3, st3⟩ := instY X0 hx hZ hown (hw _ (ow 27 rfl)) e0 (Ins.self E_a2) (g := (mkF m 1 #[.val (.ref a1), .val (.ref a2), .unset] [(.ref a2)])) rfl rfl (hb hby d4_1)
  refine own_pre (B := T3.setTop (mkF m 4 #[.val (.ref a1), .val (.ref a2), .unset] [(.int (1 : Int32))])) (fun t k => st3 t k) ?_
  refine own_pre (B := T3.setTop (mkF m 7 #[.val (.ref a1), .val (.ref a2), .unset] [])) (fun t k => XS.ifNo X3.here hx rfl (hb hby d4_4) rfl ((if0 _ _).trans (feq (by decide : ¬ ((1 : Int32) = (0 : Int32)))).1) k) ?_
  refine own_pre (B := T3.setTop (mkF m 8 #[.val (.ref a1), .val (.ref a2), .unset] [(.ref a2)])) (fun t k => XS.aloadN X3.here hx rfl (hb hby d4_7) rfl rfl k) ?_
  obtain ⟨T4, X4, e4, st4⟩ := castY X3 hx hZ hown (hw _ (ow 27 rfl)) e3 (Ins.self E_a2) (g := (mkF m 8 #[.val (.ref a1), .val (.ref a2), .unset] [(.ref a2)])) rfl rfl (hb hby d4_8)
  refine own_pre (B := T4.setTop (mkF m 11 #[.val (.ref a1), .val (.ref a2), .unset] [(.ref a2)])) (fun t k => st4 t k) ?_
  refine own_pre (B := T4.setTop (mkF m 12 #[.val (.ref a1), .val (.ref a2), .val (.ref a2)] [])) (fun t k => XS.astoreN X4.here hx rfl (hb hby d4_11) rfl rfl (l' := #[.val (.ref a1), .val (.ref a2), .val (.ref a2)]) rfl k) ?_
  refine own_pre (B := T4.setTop (mkF m 13 #[.val (.ref a1), .val (.ref a2), .val (.ref a2)] [(.ref a1)])) (fun t k => XS.aloadN X4.here hx rfl (hb hby d4_12) rfl rfl k) ?_
  obtain ⟨T5, X5, e5, st5⟩ := getF X4 hx hZ hown (host := "") (Or.inl (hw _ (ow 9 rfl))) Via.refl e4 F_leader_a1 (g := (mkF m 13 #[.val (.ref a1), .val (.ref a2), .val (.ref a2)] [(.ref a1)])) rfl rfl (hb hby d4_13)
  refine own_pre (B := T5.setTop (mkF m 16 #[.val (.ref a1), .val (.ref a2), .val (.ref a2)] [(.int w_leader_a1)])) (fun t k => st5 t k) ?_
  refine own_pre (B := T5.setTop (mkF m 17 #[.val (.ref a1), .val (.ref a2), .val (.ref a2)] [(.ref a2), (.int w_leader_a1)])) (fun t k => XS.aloadN X5.here hx rfl (hb hby d4_16) rfl rfl k) ?_
  obtain ⟨T6, X6, e6, st6⟩ := getF X5 hx hZ hown (host := "") (Or.inl (hw _ (ow 9 rfl))) Via.refl e5 F_leader_a2 (g := (mkF m 17 #[.val (.ref a1), .val (.ref a2), .val (.ref a2)] [(.ref a2), (.int w_leader_a1)])) rfl rfl (hb hby d4_17)
  refine own_pre (B := T6.setTop (mkF m 20 #[.val (.ref a1), .val (.ref a2), .val (.ref a2)] [(.int w_leader_a2), (.int w_leader_a1)])) (fun t k => st6 t k) ?_
  by_cases hc20_7 : w_leader_a1 = w_leader_a2
  · refine own_pre (B := T6.setTop (mkF m 23 #[.val (.ref a1), .val (.ref a2), .val (.ref a2)] [])) (fun t k => XS.icmpNo X6.here hx rfl (hb hby d4_20) rfl (teq hc20_7).2 k) ?_
    refine own_pre (B := T6.setTop (mkF m 24 #[.val (.ref a1), .val (.ref a2), .val (.ref a2)] [(.ref a1)])) (fun t k => XS.aloadN X6.here hx rfl (hb hby d4_23) rfl rfl k) ?_
    obtain ⟨T8, X8, e8, st8⟩ := getF X6 hx hZ hown (host := "") (Or.inl (hw _ (ow 11 rfl))) Via.refl e6 F_zxid_a1 (g := (mkF m 24 #[.val (.ref a1), .val (.ref a2), .val (.ref a2)] [(.ref a1)])) rfl rfl (hb hby d4_24)
    refine own_pre (B := T8.setTop (mkF m 27 #[.val (.ref a1), .val (.ref a2), .val (.ref a2)] [(.long w_zxid_a1)])) (fun t k => st8 t k) ?_
    refine own_pre (B := T8.setTop (mkF m 28 #[.val (.ref a1), .val (.ref a2), .val (.ref a2)] [(.ref a2), (.long w_zxid_a1)])) (fun t k => XS.aloadN X8.here hx rfl (hb hby d4_27) rfl rfl k) ?_
    obtain ⟨T9, X9, e9, st9⟩ := getF X8 hx hZ hown (host := "") (Or.inl (hw _ (ow 11 rfl))) Via.refl e8 F_zxid_a2 (g := (mkF m 28 #[.val (.ref a1), .val (.ref a2), .val (.ref a2)] [(.ref a2), (.long w_zxid_a1)])) rfl rfl (hb hby d4_28)
    refine own_pre (B := T9.setTop (mkF m 31 #[.val (.ref a1), .val (.ref a2), .val (.ref a2)] [(.long w_zxid_a2), (.long w_zxid_a1)])) (fun t k => st9 t k) ?_
    refine own_pre (B := T9.setTop (mkF m 32 #[.val (.ref a1), .val (.ref a2), .val (.ref a2)] [(.int (lcmpW w_zxid_a1 w_zxid_a2))])) (fun t k => XS.lcmp X9.here hx rfl (hb hby d4_31) rfl k) ?_
    by_cases hc32_10 : w_zxid_a1 = w_zxid_a2
    · refine own_pre (B := T9.setTop (mkF m 35 #[.val (.ref a1), .val (.ref a2), .val (.ref a2)] [])) (fun t k => XS.ifNo X9.here hx rfl (hb hby d4_32) rfl ((if0 _ _).trans (teq ((lw_eq w_zxid_a1 w_zxid_a2).mpr hc32_10)).2) k) ?_
      refine own_pre (B := T9.setTop (mkF m 36 #[.val (.ref a1), .val (.ref a2), .val (.ref a2)] [(.ref a1)])) (fun t k => XS.aloadN X9.here hx rfl (hb hby d4_35) rfl rfl k) ?_
      obtain ⟨T11, X11, e11, st11⟩ := getF X9 hx hZ hown (host := "") (Or.inl (hw _ (ow 13 rfl))) Via.refl e9 F_epoch_a1 (g := (mkF m 36 #[.val (.ref a1), .val (.ref a2), .val (.ref a2)] [(.ref a1)])) rfl rfl (hb hby d4_36)
      refine own_pre (B := T11.setTop (mkF m 39 #[.val (.ref a1), .val (.ref a2), .val (.ref a2)] [(.long w_epoch_a1)])) (fun t k => st11 t k) ?_
      refine own_pre (B := T11.setTop (mkF m 40 #[.val (.ref a1), .val (.ref a2), .val (.ref a2)] [(.ref a2), (.long w_epoch_a1)])) (fun t k => XS.aloadN X11.here hx rfl (hb hby d4_39) rfl rfl k) ?_
      obtain ⟨T12, X12, e12, st12⟩ := getF X11 hx hZ hown (host := "") (Or.inl (hw _ (ow 13 rfl))) Via.refl e11 F_epoch_a2 (g := (mkF m 40 #[.val (.ref a1), .val (.ref a2), .val (.ref a2)] [(.ref a2), (.long w_epoch_a1)])) rfl rfl (hb hby d4_40)
      refine own_pre (B := T12.setTop (mkF m 43 #[.val (.ref a1), .val (.ref a2), .val (.ref a2)] [(.long w_epoch_a2), (.long w_epoch_a1)])) (fun t k => st12 t k) ?_
      refine own_pre (B := T12.setTop (mkF m 44 #[.val (.ref a1), .val (.ref a2), .val (.ref a2)] [(.int (lcmpW w_epoch_a1 w_epoch_a2))])) (fun t k => XS.lcmp X12.here hx rfl (hb hby d4_43) rfl k) ?_
      by_cases hc44_13 : w_epoch_a1 = w_epoch_a2
      · refine own_pre (B := T12.setTop (mkF m 47 #[.val (.ref a1), .val (.ref a2), .val (.ref a2)] [])) (fun t k => XS.ifNo X12.here hx rfl (hb hby d4_44) rfl ((if0 _ _).trans (teq ((lw_eq w_epoch_a1 w_epoch_a2).mpr hc44_13)).2) k) ?_
        refine own_pre (B := T12.setTop (mkF m 48 #[.val (.ref a1), .val (.ref a2), .val (.ref a2)] [(.int (1 : Int32))])) (fun t k => XS.iconst X12.here hx rfl (hb hby d4_47) k) ?_
        refine own_pre (B := T12.setTop (mkF m 52 #[.val (.ref a1), .val (.ref a2), .val (.ref a2)] [(.int (1 : Int32))])) (fun t k => XS.goto X12.here hx rfl (pc0 := 48) (pc' := 52) rfl (hb hby d4_48) (by decide) (by decide) k) ?_
        obtain ⟨fsr14, hrr14, hrunr14, hendedr14, hWr14, hsamer14⟩ := X12.leave (v := some (.int (1 : Int32))) (fun h => by rw [Bd.returns] at h; cases h)
        refine ⟨_, _, (retN X12 hx (t := .boolean) Bd.returns (by simp) (hb hby d4_52) hrr14), hrunr14, hendedr14, _, _, rfl, ?_, ⟨_, rfl⟩, hWr14, hsamer14.mono (by decide) (by decide)⟩
        show Q4 Z a1 a2 w_leader_a1 w_leader_a2 w_zxid_a1 w_zxid_a2 w_epoch_a1 w_epoch_a2 h0 n0 _ T12.heap _
        rw [e12]
        exact ⟨(by unfold own_f4; rw [if_pos hc20_7, if_pos hc32_10, if_pos hc44_13]), N0, rfl⟩
      · refine own_pre (B := T12.setTop (mkF m 51 #[.val (.ref a1), .val (.ref a2), .val (.ref a2)] [])) (fun t k => XS.ifYes X12.here hx rfl (pc0 := 44) (pc' := 51) rfl (hb hby d4_44) rfl ((if0 _ _).trans (feq (mt (lw_eq w_epoch_a1 w_epoch_a2).mp hc44_13)).2) (by decide) (by decide) k) ?_
        refine own_pre (B := T12.setTop (mkF m 52 #[.val (.ref a1), .val (.ref a2), .val (.ref a2)] [(.int (0 : Int32))])) (fun t k => XS.iconst X12.here hx rfl (hb hby d4_51) k) ?_
        obtain ⟨fsr15, hrr15, hrunr15, hendedr15, hWr15, hsamer15⟩ := X12.leave (v := some (.int (0 : Int32))) (fun h => by rw [Bd.returns] at h; cases h)
        refine ⟨_, _, (retN X12 hx (t := .boolean) Bd.returns (by simp) (hb hby d4_52) hrr15), hrunr15, hendedr15, _, _, rfl, ?_, ⟨_, rfl⟩, hWr15, hsamer15.mono (by decide) (by decide)⟩
        show Q4 Z a1 a2 w_leader_a1 w_leader_a2 w_zxid_a1 w_zxid_a2 w_epoch_a1 w_epoch_a2 h0 n0 _ T12.heap _
        rw [e12]
        exact ⟨(by unfold own_f4; rw [if_pos hc20_7, if_pos hc32_10, if_neg hc44_13]), N0, rfl⟩
    · refine own_pre (B := T9.setTop (mkF m 51 #[.val (.ref a1), .val (.ref a2), .val (.ref a2)] [])) (fun t k => XS.ifYes X9.here hx rfl (pc0 := 32) (pc' := 51) rfl (hb hby d4_32) rfl ((if0 _ _).trans (feq (mt (lw_eq w_zxid_a1 w_zxid_a2).mp hc32_10)).2) (by decide) (by decide) k) ?_
      refine own_pre (B := T9.setTop (mkF m 52 #[.val (.ref a1), .val (.ref a2), .val (.ref a2)] [(.int (0 : Int32))])) (fun t k => XS.iconst X9.here hx rfl (hb hby d4_51) k) ?_
      obtain ⟨fsr16, hrr16, hrunr16, hendedr16, hWr16, hsamer16⟩ := X9.leave (v := some (.int (0 : Int32))) (fun h => by rw [Bd.returns] at h; cases h)
      refine ⟨_, _, (retN X9 hx (t := .boolean) Bd.returns (by simp) (hb hby d4_52) hrr16), hrunr16, hendedr16, _, _, rfl, ?_, ⟨_, rfl⟩, hWr16, hsamer16.mono (by decide) (by decide)⟩
      show Q4 Z a1 a2 w_leader_a1 w_leader_a2 w_zxid_a1 w_zxid_a2 w_epoch_a1 w_epoch_a2 h0 n0 _ T9.heap _
      rw [e9]
      exact ⟨(by unfold own_f4; rw [if_pos hc20_7, if_neg hc32_10]), N0, rfl⟩
  · refine own_pre (B := T6.setTop (mkF m 51 #[.val (.ref a1), .val (.ref a2), .val (.ref a2)] [])) (fun t k => XS.icmpYes X6.here hx rfl (pc0 := 20) (pc' := 51) rfl (hb hby d4_20) rfl (feq hc20_7).2 (by decide) (by decide) k) ?_
    refine own_pre (B := T6.setTop (mkF m 52 #[.val (.ref a1), .val (.ref a2), .val (.ref a2)] [(.int (0 : Int32))])) (fun t k => XS.iconst X6.here hx rfl (hb hby d4_51) k) ?_
    obtain ⟨fsr17, hrr17, hrunr17, hendedr17, hWr17, hsamer17⟩ := X6.leave (v := some (.int (0 : Int32))) (fun h => by rw [Bd.returns] at h; cases h)
    refine ⟨_, _, (retN X6 hx (t := .boolean) Bd.returns (by simp) (hb hby d4_52) hrr17), hrunr17, hendedr17, _, _, rfl, ?_, ⟨_, rfl⟩, hWr17, hsamer17.mono (by decide) (by decide)⟩
    show Q4 Z a1 a2 w_leader_a1 w_leader_a2 w_zxid_a1 w_zxid_a2 w_epoch_a1 w_epoch_a2 h0 n0 _ T6.heap _
    rw [e6]
    exact ⟨(by unfold own_f4; rw [if_neg hc20_7]), N0, rfl⟩
theorem ef_4n (m : MethodId) (x0 : Addr) : entryFrame m #[(.ref x0), .null] 3 = mkF m 0 #[.val (.ref x0), .val .null, .unset] [] := by first | (simp [entryFrame, mkF, argsToLocals, Value.category]; done) | rfl
def own_f4n  : Int32 := (0 : Int32)
def Q4n (Z : State) (a1 : Addr) (h0 : Heap) (n0 : Nat) (v : Option Value) (h : Heap) (L : List Loc) : Prop := v = some (.int own_f4n) ∧ Fr n0 L ∧ h = h0
set_option maxRecDepth 65536 in
set_option maxHeartbeats 40000000 in
theorem rm4n (l : Launch) (Z : State) (a0 : Array Value) (hw : ∀ d ∈ tables_1, d.before a0 Z = true) (ws : List Jvm.Cond) (a1 : Addr) (h0 : Heap) (n0 : Nat) (Z0 : n0 ≤ h0.size) :
    MetFree l (⟨"com/example/tacit_quorum/tacitquorum/server/Vote", "equals", "(Ljava/lang/Object;)Z"⟩ : MethodName) (head1 (Jvm.Cond.code (⟨"com/example/tacit_quorum/tacitquorum/server/Vote", "equals", "(Ljava/lang/Object;)Z"⟩ : MethodName) prog_48_method_7_code 3 (some .boolean) :: ws) ({ frames := 0, cells := 0, slots := 0, locals := 0 } : Room)) (fun a U => a = #[(.ref a1), .null] ∧ Z.Warmed39 U.vm ∧ U.heap = h0) (fun _ _ _ _ _ => True) (fun _ U o U' => ∃ v L, o = .returned v ∧ Q4n Z a1 h0 n0 v U'.heap L ∧ FrameEnd U o U' L ({ frames := 0, cells := 0, slots := 0, locals := 0 } : Room).cells ({ frames := 0, cells := 0, slots := 0, locals := 0 } : Room).slots) := by
  refine MetFree.of_bodySF (plainFor_of_name pn_4) hisR ?_
  intro p e s m args below meth c s₁ Bd hml0 hP hK
  obtain ⟨rfl, hZ, hh⟩ := hP
  have hx := Bd.exec
  have hby := Bd.bytes
  have hml : c.maxLocals = 3 := hml0
  have hown : s.vm.findClass "com/example/tacit_quorum/tacitquorum/server/Vote" = some m.cls := findClass_of_methodNamed Bd.named
  have hnm := (name_of_methodNamed Bd.named Bd.method).1
  have X0 : Stand p l e ({ frames := 0, cells := 0, slots := 0, locals := 0 } : Room) s m #[(.ref a1), .null] below meth c s₁ [] 0 0 := Stand.of_body Bd
  have e0 : s₁.heap = h0 := by rw [← hh, Bd.state]; rfl
  have N0 := Fr.nil n0
  apply own_in
  refine own_pre (B := s₁.setTop (mkF m 0 #[.val (.ref a1), .val .null, .unset] [])) (fun t k => castTop (ef_4n m a1) k) ?_
  refine own_pre (B := s₁.setTop (mkF m 1 #[.val (.ref a1), .val .null, .unset] [.null])) (fun t k => XS.aloadN X0.here hx rfl (hb hby d4_0) rfl rfl k) ?_
  refine own_pre (B := s₁.setTop (mkF m 4 #[.val (.ref a1), .val .null, .unset] [(.int (0 : Int32))])) (fun t k => X0.instanceofNull hx (g := (mkF m 1 #[.val (.ref a1), .val .null, .unset] [.null])) rfl rfl (hb hby d4_1) t k) ?_
  refine own_pre (B := s₁.setTop (mkF m 51 #[.val (.ref a1), .val .null, .unset] [])) (fun t k => XS.ifYes X0.here hx rfl (pc0 := 4) (pc' := 51) rfl (hb hby d4_4) rfl ((if0 _ _).trans (teq (rfl : (0 : Int32) = (0 : Int32))).1) (by decide) (by decide) k) ?_
  refine own_pre (B := s₁.setTop (mkF m 52 #[.val (.ref a1), .val .null, .unset] [(.int (0 : Int32))])) (fun t k => XS.iconst X0.here hx rfl (hb hby d4_51) k) ?_
  obtain ⟨fsr2, hrr2, hrunr2, hendedr2, hWr2, hsamer2⟩ := X0.leave (v := some (.int (0 : Int32))) (fun h => by rw [Bd.returns] at h; cases h)
  refine ⟨_, _, (retN X0 hx (t := .boolean) Bd.returns (by simp) (hb hby d4_52) hrr2), hrunr2, hendedr2, _, _, rfl, ?_, ⟨_, rfl⟩, hWr2, hsamer2.mono (by decide) (by decide)⟩
  show Q4n Z a1 h0 n0 _ s₁.heap _
  rw [e0]
  exact ⟨rfl, N0, rfl⟩
theorem ef_4x (m : MethodId) (x0 : Addr) (x1 : Addr) : entryFrame m #[(.ref x0), (.ref x1)] 3 = mkF m 0 #[.val (.ref x0), .val (.ref x1), .unset] [] := by first | (simp [entryFrame, mkF, argsToLocals, Value.category]; done) | rfl
def own_f4x  : Int32 := (0 : Int32)
def Q4x (Z : State) (a1 : Addr) (a2 : Addr) (h0 : Heap) (n0 : Nat) (v : Option Value) (h : Heap) (L : List Loc) : Prop := v = some (.int own_f4x) ∧ Fr n0 L ∧ h = h0
set_option maxRecDepth 65536 in
set_option maxHeartbeats 40000000 in
theorem rm4x (l : Launch) (Z : State) (a0 : Array Value) (hw : ∀ d ∈ tables_1, d.before a0 Z = true) (ws : List Jvm.Cond) (a1 : Addr) (a2 : Addr) (h0 : Heap) (n0 : Nat) (Z0 : n0 ≤ h0.size) (E_a2 : Exa Z h0 a2 "java/lang/Integer") :
    MetFree l (⟨"com/example/tacit_quorum/tacitquorum/server/Vote", "equals", "(Ljava/lang/Object;)Z"⟩ : MethodName) (head1 (Jvm.Cond.code (⟨"com/example/tacit_quorum/tacitquorum/server/Vote", "equals", "(Ljava/lang/Object;)Z"⟩ : MethodName) prog_48_method_7_code 3 (some .boolean) :: ws) ({ frames := 0, cells := 0, slots := 0, locals := 0 } : Room)) (fun a U => a = #[(.ref a1), (.ref a2)] ∧ Z.Warmed39 U.vm ∧ U.heap = h0) (fun _ _ _ _ _ => True) (fun _ U o U' => ∃ v L, o = .returned v ∧ Q4x Z a1 a2 h0 n0 v U'.heap L ∧ FrameEnd U o U' L ({ frames := 0, cells := 0, slots := 0, locals := 0 } : Room).cells ({ frames := 0, cells := 0, slots := 0, locals := 0 } : Room).slots) := by
  refine MetFree.of_bodySF (plainFor_of_name pn_4) hisR ?_
  intro p e s m args below meth c s₁ Bd hml0 hP hK
  obtain ⟨rfl, hZ, hh⟩ := hP
  have hx := Bd.exec
  have hby := Bd.bytes
  have hml : c.maxLocals = 3 := hml0
  have hown : s.vm.findClass "com/example/tacit_quorum/tacitquorum/server/Vote" = some m.cls := findClass_of_methodNamed Bd.named
  have hnm := (name_of_methodNamed Bd.named Bd.method).1
  have X0 : Stand p l e ({ frames := 0, cells := 0, slots := 0, locals := 0 } : Room) s m #[(.ref a1), (.ref a2)] below meth c s₁ [] 0 0 := Stand.of_body Bd
  have e0 : s₁.heap = h0 := by rw [← hh, Bd.state]; rfl
  have N0 := Fr.nil n0
  apply own_in
  refine own_pre (B := s₁.setTop (mkF m 0 #[.val (.ref a1), .val (.ref a2), .unset] [])) (fun t k => castTop (ef_4x m a1 a2) k) ?_
  refine own_pre (B := s₁.setTop (mkF m 1 #[.val (.ref a1), .val (.ref a2), .unset] [(.ref a2)])) (fun t k => XS.aloadN X0.here hx rfl (hb hby d4_0) rfl rfl k) ?_
  obtain ⟨T3, X3, e3, st3⟩ := instNo X0 hx hZ hown (hw _ (ow 27 rfl)) e0 E_a2 (own_not hw) (g := (mkF m 1 #[.val (.ref a1), .val (.ref a2), .unset] [(.ref a2)])) rfl rfl (hb hby d4_1)
  refine own_pre (B := T3.setTop (mkF m 4 #[.val (.ref a1), .val (.ref a2), .unset] [(.int (0 : Int32))])) (fun t k => st3 t k) ?_
  refine own_pre (B := T3.setTop (mkF m 51 #[.val (.ref a1), .val (.ref a2), .unset] [])) (fun t k => XS.ifYes X3.here hx rfl (pc0 := 4) (pc' := 51) rfl (hb hby d4_4) rfl ((if0 _ _).trans (teq (rfl : (0 : Int32) = (0 : Int32))).1) (by decide) (by decide) k) ?_
  refine own_pre (B := T3.setTop (mkF m 52 #[.val (.ref a1), .val (.ref a2), .unset] [(.int (0 : Int32))])) (fun t k => XS.iconst X3.here hx rfl (hb hby d4_51) k) ?_
  obtain ⟨fsr4, hrr4, hrunr4, hendedr4, hWr4, hsamer4⟩ := X3.leave (v := some (.int (0 : Int32))) (fun h => by rw [Bd.returns] at h; cases h)
  refine ⟨_, _, (retN X3 hx (t := .boolean) Bd.returns (by simp) (hb hby d4_52) hrr4), hrunr4, hendedr4, _, _, rfl, ?_, ⟨_, rfl⟩, hWr4, hsamer4.mono (by decide) (by decide)⟩
  show Q4x Z a1 a2 h0 n0 _ T3.heap _
  rw [e3]
  exact ⟨rfl, N0, rfl⟩
theorem own_xb {w : Nat} (x y : BitVec w) : x = x ^^^ y ↔ y = 0#w := by
  constructor
  · intro h
    have h2 : x ^^^ x = x ^^^ (x ^^^ y) := by rw [← h]
    rw [← BitVec.xor_assoc, BitVec.xor_self, BitVec.zero_xor] at h2
    exact h2.symm
  · intro h; rw [h, BitVec.xor_zero]
theorem own_x32 (l d : Int32) : l = l ^^^ d ↔ d = 0 := by
  rw [← Int32.toBitVec_inj, Int32.toBitVec_xor, own_xb, ← Int32.toBitVec_inj]; rfl
theorem own_x64 (l d : Int64) : l = l ^^^ d ↔ d = 0 := by
  rw [← Int64.toBitVec_inj, Int64.toBitVec_xor, own_xb, ← Int64.toBitVec_inj]; rfl
theorem own_ab (l d : Int32) (z dz e de : Int64) : own_f4 l (l ^^^ d) z (z ^^^ dz) e (e ^^^ de) = (if d = 0 then (if dz = 0 then (if de = 0 then (1 : Int32) else 0) else 0) else 0) := by
  unfold own_f4; simp only [own_x32, own_x64]
theorem own_ba (l d : Int32) (z dz e de : Int64) : own_f4 (l ^^^ d) l (z ^^^ dz) z (e ^^^ de) e = (if d = 0 then (if dz = 0 then (if de = 0 then (1 : Int32) else 0) else 0) else 0) := by
  unfold own_f4; simp only [eq_comm (a := l ^^^ d), eq_comm (a := z ^^^ dz), eq_comm (a := e ^^^ de), own_x32, own_x64]
theorem own_aa (l : Int32) (z e : Int64) : ¬ own_f4 l l z z e e = 0 := by unfold own_f4; simp
theorem pd_2 : parseMethodDescriptor "(IJJ)V" = some ⟨[.int, .long, .long], none⟩ := by decide +kernel
theorem pd_3 : parseMethodDescriptor "(I)Ljava/lang/Integer;" = some ⟨[.int], some (.object "java/lang/Integer")⟩ := by decide +kernel
theorem pd_4 : parseMethodDescriptor "(Ljava/lang/Object;)Z" = some ⟨[(.object "java/lang/Object")], some .boolean⟩ := by decide +kernel
theorem pn_0 : plainName "com/example/tacit_quorum/tacitquorum/server/VoteEqualsPinLaw" = true := by first | (simp [plainName, overriddenIn]; done) | decide +kernel
theorem ef_0 (m : MethodId) (x0 : Int32) (x1 : Int64) (x2 : Int64) (x3 : Int32) (x4 : Int64) (x5 : Int64) : entryFrame m #[(.int x0), (.long x1), (.long x2), (.int x3), (.long x4), (.long x5)] maxLocals = mkF m 0 #[.val (.int x0), .val (.long x1), .second, .val (.long x2), .second, .val (.int x3), .val (.long x4), .second, .val (.long x5), .second, .unset, .unset, .unset, .unset, .unset, .unset, .unset, .unset, .unset] [] := by first | (simp [entryFrame, mkF, argsToLocals, Value.category, maxLocals]; done) | rfl
def Q0 (Z : State) (p1 : Int32) (q2 : Int64) (q3 : Int64) (p4 : Int32) (q5 : Int64) (q6 : Int64) (ca : Addr) (cc : Cell) (h0 : Heap) (n0 : Nat) (v : Option Value) (h : Heap) (L : List Loc) : Prop := v = some (.int 1) ∧ Fr n0 L
set_option maxRecDepth 65536 in
set_option maxHeartbeats 40000000 in
theorem rm0 (l : Launch) (Z : State) (a0 : Array Value) (hw : ∀ d ∈ tables_1, d.before a0 Z = true) (ws : List Jvm.Cond) (p1 : Int32) (q2 : Int64) (q3 : Int64) (p4 : Int32) (q5 : Int64) (q6 : Int64) (ca : Addr) (cc : Cell) (h0 : Heap) (n0 : Nat) (Z0 : n0 ≤ h0.size) (O0 : Old Z n0 h0) (SC : Sta Z Z.heap "java/lang/Integer$IntegerCache" "cache" "[Ljava/lang/Integer;" (.ref ca)) (SH : Sta Z Z.heap "java/lang/Integer$IntegerCache" "high" "I" (.int (127 : Int32))) (AC : Arr Z Z.heap ca cc (.object "java/lang/Integer")) (SZ256 : cc.slots.size = 256) (EL : ∀ j, j < 256 → ∃ r, cc.slots[j]? = some (.ref r) ∧ Exa Z Z.heap r "java/lang/Integer") :
    MetFree l x (head1 (Jvm.Cond.code x code maxLocals ret :: ws) room_1) (fun a U => a = #[(.int p1), (.long q2), (.long q3), (.int p4), (.long q5), (.long q6)] ∧ Z.Warmed39 U.vm ∧ U.heap = h0) (fun _ _ _ _ _ => True) (fun _ U o U' => ∃ v L, o = .returned v ∧ Q0 Z p1 q2 q3 p4 q5 q6 ca cc h0 n0 v U'.heap L ∧ FrameEnd U o U' L 3 7) := by
  refine MetFree.of_bodySF (plainFor_of_name pn_0) hisR ?_
  intro p e s m args below meth c s₁ Bd hml0 hP hK
  obtain ⟨rfl, hZ, hh⟩ := hP
  have hx := Bd.exec
  have hby := Bd.bytes
  have hml : c.maxLocals = 19 := hml0
  have hown : s.vm.findClass "com/example/tacit_quorum/tacitquorum/server/VoteEqualsPinLaw" = some m.cls := findClass_of_methodNamed Bd.named
  have hnm := (name_of_methodNamed Bd.named Bd.method).1
  have X0 : Stand p l e room_1 s m #[(.int p1), (.long q2), (.long q3), (.int p4), (.long q5), (.long q6)] below meth c s₁ [] 0 0 := Stand.of_body Bd
  have e0 : s₁.heap = h0 := by rw [← hh, Bd.state]; rfl
  have N0 := Fr.nil n0
  apply own_in
  refine own_pre (B := s₁.setTop (mkF m 0 #[.val (.int p1), .val (.long q2), .second, .val (.long q3), .second, .val (.int p4), .val (.long q5), .second, .val (.long q6), .second, .unset, .unset, .unset, .unset, .unset, .unset, .unset, .unset, .unset] [])) (fun t k => castTop (ef_0 m p1 q2 q3 p4 q5 q6) k) ?_
  have K7 : Keep h0 h0 [] := (Keep.refl h0 [])
  obtain ⟨T8, h8, X8, e8, E8, A8, D8, -, st8⟩ := newO X0 hx hZ hown (hw _ (ow 0 rfl)) (hw _ (ow 1 rfl)) (hw _ (ow 2 rfl)) e0 (g := (mkF m 0 #[.val (.int p1), .val (.long q2), .second, .val (.long q3), .second, .val (.int p4), .val (.long q5), .second, .val (.long q6), .second, .unset, .unset, .unset, .unset, .unset, .unset, .unset, .unset, .unset] [])) rfl (hb hby at_0) (by decide) (by decide)
  obtain ⟨b8, g8⟩ : ∃ z, z = h0.size := ⟨_, rfl⟩
  rw [← g8] at A8 D8 st8
  have g_b8 : n0 ≤ b8 := Nat.le_trans Z0 (Nat.le_of_eq g8.symm)
  have s_b8 : h0.size ≤ b8 := Nat.le_trans K7.1 (Nat.le_of_eq g8.symm)
  have F_leader_b8 : Fld Z h8 b8 "com/example/tacit_quorum/tacitquorum/server/Vote" "leader" "I" (.int (0 : Int32)) := D8 (Or.inr (hw _ (ow 10 rfl))) (ty := .int) (by decide)
  have F_zxid_b8 : Fld Z h8 b8 "com/example/tacit_quorum/tacitquorum/server/Vote" "zxid" "J" (.long (0 : Int64)) := D8 (Or.inr (hw _ (ow 12 rfl))) (ty := .long) (by decide)
  have F_epoch_b8 : Fld Z h8 b8 "com/example/tacit_quorum/tacitquorum/server/Vote" "epoch" "J" (.long (0 : Int64)) := D8 (Or.inr (hw _ (ow 14 rfl))) (ty := .long) (by decide)
  refine own_pre (B := T8.setTop (mkF m 3 #[.val (.int p1), .val (.long q2), .second, .val (.long q3), .second, .val (.int p4), .val (.long q5), .second, .val (.long q6), .second, .unset, .unset, .unset, .unset, .unset, .unset, .unset, .unset, .unset] [(.ref b8)])) (fun t k => st8 t k) ?_
  refine own_pre (B := T8.setTop (mkF m 4 #[.val (.int p1), .val (.long q2), .second, .val (.long q3), .second, .val (.int p4), .val (.long q5), .second, .val (.long q6), .second, .unset, .unset, .unset, .unset, .unset, .unset, .unset, .unset, .unset] [(.ref b8), (.ref b8)])) (fun t k => XS.dup X8.here hx rfl (hb hby at_3) rfl rfl k) ?_
  refine own_pre (B := T8.setTop (mkF m 5 #[.val (.int p1), .val (.long q2), .second, .val (.long q3), .second, .val (.int p4), .val (.long q5), .second, .val (.long q6), .second, .unset, .unset, .unset, .unset, .unset, .unset, .unset, .unset, .unset] [(.int p1), (.ref b8), (.ref b8)])) (fun t k => XS.iloadN X8.here hx rfl (hb hby at_4) rfl k) ?_
  refine own_pre (B := T8.setTop (mkF m 6 #[.val (.int p1), .val (.long q2), .second, .val (.long q3), .second, .val (.int p4), .val (.long q5), .second, .val (.long q6), .second, .unset, .unset, .unset, .unset, .unset, .unset, .unset, .unset, .unset] [(.long q2), (.int p1), (.ref b8), (.ref b8)])) (fun t k => XS.lloadN X8.here hx rfl (hb hby at_5) rfl k) ?_
  refine own_pre (B := T8.setTop (mkF m 7 #[.val (.int p1), .val (.long q2), .second, .val (.long q3), .second, .val (.int p4), .val (.long q5), .second, .val (.long q6), .second, .unset, .unset, .unset, .unset, .unset, .unset, .unset, .unset, .unset] [(.long q3), (.long q2), (.int p1), (.ref b8), (.ref b8)])) (fun t k => XS.lloadN X8.here hx rfl (hb hby at_6) rfl k) ?_
  have sz9 : n0 ≤ h8.size := (Nat.le_trans Z0 E8.1)
  obtain ⟨_, _, ⟨T10, L10, k10, n10⟩, -, X10, ⟨Lc10, hQ10, l10, y10, z10⟩, st10⟩ := X8.specialBack hx (y := (⟨"com/example/tacit_quorum/tacitquorum/server/Vote", "<init>", "(IJJ)V"⟩ : MethodName)) rfl hown (mvT hZ (hw _ (ow 3 rfl))) (mvT hZ (hw _ (ow 4 rfl))) (mvT hZ (hw _ (ow 5 rfl))) (by decide) (backOf (W := 1) (rm1 l Z a0 hw [] b8 p1 q2 q3 (.int (0 : Int32)) (.long (0 : Int64)) (.long (0 : Int64)) h8 n0 sz9 A8 F_leader_b8 g_b8 F_zxid_b8 F_epoch_b8) hZ (hw _ (ow 5 rfl)) (hw _ (ow 2 rfl)) (by decide) (by decide)) (g := (mkF m 7 #[.val (.int p1), .val (.long q2), .second, .val (.long q3), .second, .val (.int p4), .val (.long q5), .second, .val (.long q6), .second, .unset, .unset, .unset, .unset, .unset, .unset, .unset, .unset, .unset] [(.long q3), (.long q2), (.int p1), (.ref b8), (.ref b8)])) rfl (by rw [hml]; rfl) (Steps.refl _) (a := b8) (argsL := [(.int p1), (.long q2), (.long q3)]) (rest := [(.ref b8)]) (lenOf pd_2 rfl) rfl (by show 2 * 0 + _ ≤ _; exact Nat.le_of_eq rfl) (hb hby at_7) (fun _ _ => ⟨rfl, e8, (by decide : 1 + 0 ≤ _), (by decide : 3 + 0 ≤ _)⟩)
  dsimp only [Pt.U, Pt.locs, Pt.cells, Pt.slots] at X10 l10 y10 z10 st10 hQ10
  subst l10 y10 z10
  obtain ⟨rfl, N10q, K10, q10_0, q10_1, q10_2, q10_3⟩ := hQ10
  have N10 := Fr.app N0 N10q
  have K11 : Keep h0 h8 [] := (Keep.ext K7 E8)
  refine own_pre (B := T10.setTop (mkF m 10 #[.val (.int p1), .val (.long q2), .second, .val (.long q3), .second, .val (.int p4), .val (.long q5), .second, .val (.long q6), .second, .unset, .unset, .unset, .unset, .unset, .unset, .unset, .unset, .unset] [(.ref b8)])) (fun t k => st10.trans k) ?_
  refine own_pre (B := T10.setTop (mkF m 12 #[.val (.int p1), .val (.long q2), .second, .val (.long q3), .second, .val (.int p4), .val (.long q5), .second, .val (.long q6), .second, .val (.ref b8), .unset, .unset, .unset, .unset, .unset, .unset, .unset, .unset] [])) (fun t k => XS.astore X10.here hx rfl (hb hby at_10) rfl rfl (l' := #[.val (.int p1), .val (.long q2), .second, .val (.long q3), .second, .val (.int p4), .val (.long q5), .second, .val (.long q6), .second, .val (.ref b8), .unset, .unset, .unset, .unset, .unset, .unset, .unset, .unset]) rfl k) ?_
  have K12 : Keep h0 T10.heap [] := (Keep.trans K11 K10 (allS (P := fun x => x ∈ [] ∨ h0.size ≤ x) (Or.inr s_b8) all0))
  obtain ⟨T13, h13, X13, e13, E13, A13, D13, -, st13⟩ := newO X10 hx hZ hown (hw _ (ow 0 rfl)) (hw _ (ow 1 rfl)) (hw _ (ow 2 rfl)) rfl (g := (mkF m 12 #[.val (.int p1), .val (.long q2), .second, .val (.long q3), .second, .val (.int p4), .val (.long q5), .second, .val (.long q6), .second, .val (.ref b8), .unset, .unset, .unset, .unset, .unset, .unset, .unset, .unset] [])) rfl (hb hby at_12) (by decide) (by decide)
  have sz14 : n0 ≤ T10.heap.size := (Nat.le_trans sz9 K10.1)
  obtain ⟨b13, g13⟩ : ∃ z, z = T10.heap.size := ⟨_, rfl⟩
  rw [← g13] at A13 D13 st13
  have g_b13 : n0 ≤ b13 := Nat.le_trans sz14 (Nat.le_of_eq g13.symm)
  have s_b13 : h0.size ≤ b13 := Nat.le_trans K12.1 (Nat.le_of_eq g13.symm)
  have ne15 : b8 ≠ b13 := Nat.ne_of_lt (Nat.lt_of_lt_of_le (Exa.lt q10_0) (Nat.le_of_eq g13.symm))
  have F_leader_b13 : Fld Z h13 b13 "com/example/tacit_quorum/tacitquorum/server/Vote" "leader" "I" (.int (0 : Int32)) := D13 (Or.inr (hw _ (ow 10 rfl))) (ty := .int) (by decide)
  have F_zxid_b13 : Fld Z h13 b13 "com/example/tacit_quorum/tacitquorum/server/Vote" "zxid" "J" (.long (0 : Int64)) := D13 (Or.inr (hw _ (ow 12 rfl))) (ty := .long) (by decide)
  have F_epoch_b13 : Fld Z h13 b13 "com/example/tacit_quorum/tacitquorum/server/Vote" "epoch" "J" (.long (0 : Int64)) := D13 (Or.inr (hw _ (ow 14 rfl))) (ty := .long) (by decide)
  refine own_pre (B := T13.setTop (mkF m 15 #[.val (.int p1), .val (.long q2), .second, .val (.long q3), .second, .val (.int p4), .val (.long q5), .second, .val (.long q6), .second, .val (.ref b8), .unset, .unset, .unset, .unset, .unset, .unset, .unset, .unset] [(.ref b13)])) (fun t k => st13 t k) ?_
  refine own_pre (B := T13.setTop (mkF m 16 #[.val (.int p1), .val (.long q2), .second, .val (.long q3), .second, .val (.int p4), .val (.long q5), .second, .val (.long q6), .second, .val (.ref b8), .unset, .unset, .unset, .unset, .unset, .unset, .unset, .unset] [(.ref b13), (.ref b13)])) (fun t k => XS.dup X13.here hx rfl (hb hby at_15) rfl rfl k) ?_
  refine own_pre (B := T13.setTop (mkF m 17 #[.val (.int p1), .val (.long q2), .second, .val (.long q3), .second, .val (.int p4), .val (.long q5), .second, .val (.long q6), .second, .val (.ref b8), .unset, .unset, .unset, .unset, .unset, .unset, .unset, .unset] [(.int p1), (.ref b13), (.ref b13)])) (fun t k => XS.iloadN X13.here hx rfl (hb hby at_16) rfl k) ?_
  refine own_pre (B := T13.setTop (mkF m 19 #[.val (.int p1), .val (.long q2), .second, .val (.long q3), .second, .val (.int p4), .val (.long q5), .second, .val (.long q6), .second, .val (.ref b8), .unset, .unset, .unset, .unset, .unset, .unset, .unset, .unset] [(.int p4), (.int p1), (.ref b13), (.ref b13)])) (fun t k => XS.iload X13.here hx rfl (hb hby at_17) rfl k) ?_
  refine own_pre (B := T13.setTop (mkF m 20 #[.val (.int p1), .val (.long q2), .second, .val (.long q3), .second, .val (.int p4), .val (.long q5), .second, .val (.long q6), .second, .val (.ref b8), .unset, .unset, .unset, .unset, .unset, .unset, .unset, .unset] [(.int (p1 ^^^ p4)), (.ref b13), (.ref b13)])) (fun t k => XS.ixor X13.here hx rfl (hb hby at_19) rfl k) ?_
  refine own_pre (B := T13.setTop (mkF m 21 #[.val (.int p1), .val (.long q2), .second, .val (.long q3), .second, .val (.int p4), .val (.long q5), .second, .val (.long q6), .second, .val (.ref b8), .unset, .unset, .unset, .unset, .unset, .unset, .unset, .unset] [(.long q2), (.int (p1 ^^^ p4)), (.ref b13), (.ref b13)])) (fun t k => XS.lloadN X13.here hx rfl (hb hby at_20) rfl k) ?_
  refine own_pre (B := T13.setTop (mkF m 23 #[.val (.int p1), .val (.long q2), .second, .val (.long q3), .second, .val (.int p4), .val (.long q5), .second, .val (.long q6), .second, .val (.ref b8), .unset, .unset, .unset, .unset, .unset, .unset, .unset, .unset] [(.long q5), (.long q2), (.int (p1 ^^^ p4)), (.ref b13), (.ref b13)])) (fun t k => XS.lload X13.here hx rfl (hb hby at_21) rfl k) ?_
  refine own_pre (B := T13.setTop (mkF m 24 #[.val (.int p1), .val (.long q2), .second, .val (.long q3), .second, .val (.int p4), .val (.long q5), .second, .val (.long q6), .second, .val (.ref b8), .unset, .unset, .unset, .unset, .unset, .unset, .unset, .unset] [(.long (q2 ^^^ q5)), (.int (p1 ^^^ p4)), (.ref b13), (.ref b13)])) (fun t k => XS.lxor X13.here hx rfl (hb hby at_23) rfl k) ?_
  refine own_pre (B := T13.setTop (mkF m 25 #[.val (.int p1), .val (.long q2), .second, .val (.long q3), .second, .val (.int p4), .val (.long q5), .second, .val (.long q6), .second, .val (.ref b8), .unset, .unset, .unset, .unset, .unset, .unset, .unset, .unset] [(.long q3), (.long (q2 ^^^ q5)), (.int (p1 ^^^ p4)), (.ref b13), (.ref b13)])) (fun t k => XS.lloadN X13.here hx rfl (hb hby at_24) rfl k) ?_
  refine own_pre (B := T13.setTop (mkF m 27 #[.val (.int p1), .val (.long q2), .second, .val (.long q3), .second, .val (.int p4), .val (.long q5), .second, .val (.long q6), .second, .val (.ref b8), .unset, .unset, .unset, .unset, .unset, .unset, .unset, .unset] [(.long q6), (.long q3), (.long (q2 ^^^ q5)), (.int (p1 ^^^ p4)), (.ref b13), (.ref b13)])) (fun t k => XS.lload X13.here hx rfl (hb hby at_25) rfl k) ?_
  refine own_pre (B := T13.setTop (mkF m 28 #[.val (.int p1), .val (.long q2), .second, .val (.long q3), .second, .val (.int p4), .val (.long q5), .second, .val (.long q6), .second, .val (.ref b8), .unset, .unset, .unset, .unset, .unset, .unset, .unset, .unset] [(.long (q3 ^^^ q6)), (.long (q2 ^^^ q5)), (.int (p1 ^^^ p4)), (.ref b13), (.ref b13)])) (fun t k => XS.lxor X13.here hx rfl (hb hby at_27) rfl k) ?_
  have sz16 : n0 ≤ h13.size := (Nat.le_trans sz14 E13.1)
  obtain ⟨_, _, ⟨T17, L17, k17, n17⟩, -, X17, ⟨Lc17, hQ17, l17, y17, z17⟩, st17⟩ := X13.specialBack hx (y := (⟨"com/example/tacit_quorum/tacitquorum/server/Vote", "<init>", "(IJJ)V"⟩ : MethodName)) rfl hown (mvT hZ (hw _ (ow 3 rfl))) (mvT hZ (hw _ (ow 4 rfl))) (mvT hZ (hw _ (ow 5 rfl))) (by decide) (backOf (W := 1) (rm1 l Z a0 hw [] b13 (p1 ^^^ p4) (q2 ^^^ q5) (q3 ^^^ q6) (.int (0 : Int32)) (.long (0 : Int64)) (.long (0 : Int64)) h13 n0 sz16 A13 F_leader_b13 g_b13 F_zxid_b13 F_epoch_b13) hZ (hw _ (ow 5 rfl)) (hw _ (ow 2 rfl)) (by decide) (by decide)) (g := (mkF m 28 #[.val (.int p1), .val (.long q2), .second, .val (.long q3), .second, .val (.int p4), .val (.long q5), .second, .val (.long q6), .second, .val (.ref b8), .unset, .unset, .unset, .unset, .unset, .unset, .unset, .unset] [(.long (q3 ^^^ q6)), (.long (q2 ^^^ q5)), (.int (p1 ^^^ p4)), (.ref b13), (.ref b13)])) rfl (by rw [hml]; rfl) (Steps.refl _) (a := b13) (argsL := [(.int (p1 ^^^ p4)), (.long (q2 ^^^ q5)), (.long (q3 ^^^ q6))]) (rest := [(.ref b13)]) (lenOf pd_2 rfl) rfl (by show 2 * 0 + _ ≤ _; exact Nat.le_of_eq rfl) (hb hby at_28) (fun _ _ => ⟨rfl, e13, (by decide : 2 + 0 ≤ _), (by decide : 6 + 0 ≤ _)⟩)
  dsimp only [Pt.U, Pt.locs, Pt.cells, Pt.slots] at X17 l17 y17 z17 st17 hQ17
  subst l17 y17 z17
  obtain ⟨rfl, N17q, K17, q17_0, q17_1, q17_2, q17_3⟩ := hQ17
  have N17 := Fr.app N10 N17q
  have K18 : Keep h0 h13 [] := (Keep.ext K12 E13)
  refine own_pre (B := T17.setTop (mkF m 31 #[.val (.int p1), .val (.long q2), .second, .val (.long q3), .second, .val (.int p4), .val (.long q5), .second, .val (.long q6), .second, .val (.ref b8), .unset, .unset, .unset, .unset, .unset, .unset, .unset, .unset] [(.ref b13)])) (fun t k => st17.trans k) ?_
  refine own_pre (B := T17.setTop (mkF m 33 #[.val (.int p1), .val (.long q2), .second, .val (.long q3), .second, .val (.int p4), .val (.long q5), .second, .val (.long q6), .second, .val (.ref b8), .val (.ref b13), .unset, .unset, .unset, .unset, .unset, .unset, .unset] [])) (fun t k => XS.astore X17.here hx rfl (hb hby at_31) rfl rfl (l' := #[.val (.int p1), .val (.long q2), .second, .val (.long q3), .second, .val (.int p4), .val (.long q5), .second, .val (.long q6), .second, .val (.ref b8), .val (.ref b13), .unset, .unset, .unset, .unset, .unset, .unset, .unset]) rfl k) ?_
  refine own_pre (B := T17.setTop (mkF m 35 #[.val (.int p1), .val (.long q2), .second, .val (.long q3), .second, .val (.int p4), .val (.long q5), .second, .val (.long q6), .second, .val (.ref b8), .val (.ref b13), .unset, .unset, .unset, .unset, .unset, .unset, .unset] [(.int p4)])) (fun t k => XS.iload X17.here hx rfl (hb hby at_33) rfl k) ?_
  obtain ⟨z19, hz19⟩ : ∃ z : Int32, z = (if p4 = (0 : Int32) then (if q5 = (0 : Int64) then (if q6 = (0 : Int64) then (1 : Int32) else (0 : Int32)) else (0 : Int32)) else (0 : Int32)) := ⟨_, rfl⟩
  refine own_pre (B := T17.setTop (mkF m 57 #[.val (.int p1), .val (.long q2), .second, .val (.long q3), .second, .val (.int p4), .val (.long q5), .second, .val (.long q6), .second, .val (.ref b8), .val (.ref b13), .unset, .unset, .unset, .unset, .unset, .unset, .unset] [(.int z19)])) (fun t k => ?_) ?_
  · by_cases hc35_20 : p4 = (0 : Int32)
    · refine XS.ifNo X17.here hx rfl (hb hby at_35) rfl ((if0 _ _).trans (teq hc35_20).2) ?_
      show Steps p.tables e below (T17.setTop (mkF m 38 #[.val (.int p1), .val (.long q2), .second, .val (.long q3), .second, .val (.int p4), .val (.long q5), .second, .val (.long q6), .second, .val (.ref b8), .val (.ref b13), .unset, .unset, .unset, .unset, .unset, .unset, .unset] [])) _
      refine XS.lload X17.here hx rfl (hb hby at_38) rfl ?_
      show Steps p.tables e below (T17.setTop (mkF m 40 #[.val (.int p1), .val (.long q2), .second, .val (.long q3), .second, .val (.int p4), .val (.long q5), .second, .val (.long q6), .second, .val (.ref b8), .val (.ref b13), .unset, .unset, .unset, .unset, .unset, .unset, .unset] [(.long q5)])) _
      refine XS.lconst X17.here hx rfl (hb hby at_40) ?_
      show Steps p.tables e below (T17.setTop (mkF m 41 #[.val (.int p1), .val (.long q2), .second, .val (.long q3), .second, .val (.int p4), .val (.long q5), .second, .val (.long q6), .second, .val (.ref b8), .val (.ref b13), .unset, .unset, .unset, .unset, .unset, .unset, .unset] [(.long (0 : Int64)), (.long q5)])) _
      refine XS.lcmp X17.here hx rfl (hb hby at_41) rfl ?_
      show Steps p.tables e below (T17.setTop (mkF m 42 #[.val (.int p1), .val (.long q2), .second, .val (.long q3), .second, .val (.int p4), .val (.long q5), .second, .val (.long q6), .second, .val (.ref b8), .val (.ref b13), .unset, .unset, .unset, .unset, .unset, .unset, .unset] [(.int (lcmpW q5 (0 : Int64)))])) _
      by_cases hc42_21 : q5 = (0 : Int64)
      · refine XS.ifNo X17.here hx rfl (hb hby at_42) rfl ((if0 _ _).trans (teq ((lw_eq q5 (0 : Int64)).mpr hc42_21)).2) ?_
        show Steps p.tables e below (T17.setTop (mkF m 45 #[.val (.int p1), .val (.long q2), .second, .val (.long q3), .second, .val (.int p4), .val (.long q5), .second, .val (.long q6), .second, .val (.ref b8), .val (.ref b13), .unset, .unset, .unset, .unset, .unset, .unset, .unset] [])) _
        refine XS.lload X17.here hx rfl (hb hby at_45) rfl ?_
        show Steps p.tables e below (T17.setTop (mkF m 47 #[.val (.int p1), .val (.long q2), .second, .val (.long q3), .second, .val (.int p4), .val (.long q5), .second, .val (.long q6), .second, .val (.ref b8), .val (.ref b13), .unset, .unset, .unset, .unset, .unset, .unset, .unset] [(.long q6)])) _
        refine XS.lconst X17.here hx rfl (hb hby at_47) ?_
        show Steps p.tables e below (T17.setTop (mkF m 48 #[.val (.int p1), .val (.long q2), .second, .val (.long q3), .second, .val (.int p4), .val (.long q5), .second, .val (.long q6), .second, .val (.ref b8), .val (.ref b13), .unset, .unset, .unset, .unset, .unset, .unset, .unset] [(.long (0 : Int64)), (.long q6)])) _
        refine XS.lcmp X17.here hx rfl (hb hby at_48) rfl ?_
        show Steps p.tables e below (T17.setTop (mkF m 49 #[.val (.int p1), .val (.long q2), .second, .val (.long q3), .second, .val (.int p4), .val (.long q5), .second, .val (.long q6), .second, .val (.ref b8), .val (.ref b13), .unset, .unset, .unset, .unset, .unset, .unset, .unset] [(.int (lcmpW q6 (0 : Int64)))])) _
        by_cases hc49_22 : q6 = (0 : Int64)
        · refine XS.ifNo X17.here hx rfl (hb hby at_49) rfl ((if0 _ _).trans (teq ((lw_eq q6 (0 : Int64)).mpr hc49_22)).2) ?_
          show Steps p.tables e below (T17.setTop (mkF m 52 #[.val (.int p1), .val (.long q2), .second, .val (.long q3), .second, .val (.int p4), .val (.long q5), .second, .val (.long q6), .second, .val (.ref b8), .val (.ref b13), .unset, .unset, .unset, .unset, .unset, .unset, .unset] [])) _
          refine XS.iconst X17.here hx rfl (hb hby at_52) ?_
          show Steps p.tables e below (T17.setTop (mkF m 53 #[.val (.int p1), .val (.long q2), .second, .val (.long q3), .second, .val (.int p4), .val (.long q5), .second, .val (.long q6), .second, .val (.ref b8), .val (.ref b13), .unset, .unset, .unset, .unset, .unset, .unset, .unset] [(.int (1 : Int32))])) _
          refine XS.goto X17.here hx rfl (pc0 := 53) (pc' := 57) rfl (hb hby at_53) (by decide) (by decide) ?_
          show Steps p.tables e below (T17.setTop (mkF m 57 #[.val (.int p1), .val (.long q2), .second, .val (.long q3), .second, .val (.int p4), .val (.long q5), .second, .val (.long q6), .second, .val (.ref b8), .val (.ref b13), .unset, .unset, .unset, .unset, .unset, .unset, .unset] [(.int (1 : Int32))])) _
          rw [if_pos hc35_20, if_pos hc42_21, if_pos hc49_22] at hz19
          subst hz19
          exact k
        · refine XS.ifYes X17.here hx rfl (pc0 := 49) (pc' := 56) rfl (hb hby at_49) rfl ((if0 _ _).trans (feq (mt (lw_eq q6 (0 : Int64)).mp hc49_22)).2) (by decide) (by decide) ?_
          show Steps p.tables e below (T17.setTop (mkF m 56 #[.val (.int p1), .val (.long q2), .second, .val (.long q3), .second, .val (.int p4), .val (.long q5), .second, .val (.long q6), .second, .val (.ref b8), .val (.ref b13), .unset, .unset, .unset, .unset, .unset, .unset, .unset] [])) _
          refine XS.iconst X17.here hx rfl (hb hby at_56) ?_
          show Steps p.tables e below (T17.setTop (mkF m 57 #[.val (.int p1), .val (.long q2), .second, .val (.long q3), .second, .val (.int p4), .val (.long q5), .second, .val (.long q6), .second, .val (.ref b8), .val (.ref b13), .unset, .unset, .unset, .unset, .unset, .unset, .unset] [(.int (0 : Int32))])) _
          rw [if_pos hc35_20, if_pos hc42_21, if_neg hc49_22] at hz19
          subst hz19
          exact k
      · refine XS.ifYes X17.here hx rfl (pc0 := 42) (pc' := 56) rfl (hb hby at_42) rfl ((if0 _ _).trans (feq (mt (lw_eq q5 (0 : Int64)).mp hc42_21)).2) (by decide) (by decide) ?_
        show Steps p.tables e below (T17.setTop (mkF m 56 #[.val (.int p1), .val (.long q2), .second, .val (.long q3), .second, .val (.int p4), .val (.long q5), .second, .val (.long q6), .second, .val (.ref b8), .val (.ref b13), .unset, .unset, .unset, .unset, .unset, .unset, .unset] [])) _
        refine XS.iconst X17.here hx rfl (hb hby at_56) ?_
        show Steps p.tables e below (T17.setTop (mkF m 57 #[.val (.int p1), .val (.long q2), .second, .val (.long q3), .second, .val (.int p4), .val (.long q5), .second, .val (.long q6), .second, .val (.ref b8), .val (.ref b13), .unset, .unset, .unset, .unset, .unset, .unset, .unset] [(.int (0 : Int32))])) _
        rw [if_pos hc35_20, if_neg hc42_21] at hz19
        subst hz19
        exact k
    · refine XS.ifYes X17.here hx rfl (pc0 := 35) (pc' := 56) rfl (hb hby at_35) rfl ((if0 _ _).trans (feq hc35_20).2) (by decide) (by decide) ?_
      show Steps p.tables e below (T17.setTop (mkF m 56 #[.val (.int p1), .val (.long q2), .second, .val (.long q3), .second, .val (.int p4), .val (.long q5), .second, .val (.long q6), .second, .val (.ref b8), .val (.ref b13), .unset, .unset, .unset, .unset, .unset, .unset, .unset] [])) _
      refine XS.iconst X17.here hx rfl (hb hby at_56) ?_
      show Steps p.tables e below (T17.setTop (mkF m 57 #[.val (.int p1), .val (.long q2), .second, .val (.long q3), .second, .val (.int p4), .val (.long q5), .second, .val (.long q6), .second, .val (.ref b8), .val (.ref b13), .unset, .unset, .unset, .unset, .unset, .unset, .unset] [(.int (0 : Int32))])) _
      rw [if_neg hc35_20] at hz19
      subst hz19
      exact k
  refine own_pre (B := T17.setTop (mkF m 59 #[.val (.int p1), .val (.long q2), .second, .val (.long q3), .second, .val (.int p4), .val (.long q5), .second, .val (.long q6), .second, .val (.ref b8), .val (.ref b13), .val (.int z19), .unset, .unset, .unset, .unset, .unset, .unset] [])) (fun t k => XS.istore X17.here hx rfl (hb hby at_57) rfl (l' := #[.val (.int p1), .val (.long q2), .second, .val (.long q3), .second, .val (.int p4), .val (.long q5), .second, .val (.long q6), .second, .val (.ref b8), .val (.ref b13), .val (.int z19), .unset, .unset, .unset, .unset, .unset, .unset]) rfl k) ?_
  refine own_pre (B := T17.setTop (mkF m 60 #[.val (.int p1), .val (.long q2), .second, .val (.long q3), .second, .val (.int p4), .val (.long q5), .second, .val (.long q6), .second, .val (.ref b8), .val (.ref b13), .val (.int z19), .unset, .unset, .unset, .unset, .unset, .unset] [(.int p1)])) (fun t k => XS.iloadN X17.here hx rfl (hb hby at_59) rfl k) ?_
  have O23 := (Old.keep (Old.ext (Old.keep (Old.ext O0 E8) K10 (allS (P := fun x => n0 ≤ x) g_b8 all0)) E13) K17 (allS (P := fun x => n0 ≤ x) g_b13 all0))
  have sz24 : n0 ≤ T17.heap.size := (Nat.le_trans sz16 K17.1)
  obtain ⟨_, _, ⟨T25, L25, k25, n25⟩, -, X25, ⟨Lc25, hQ25, l25, y25, z25⟩, st25⟩ := Jvm.LawKit.callS X17 hx (y := (⟨"java/lang/Integer", "valueOf", "(I)Ljava/lang/Integer;"⟩ : MethodName)) hown (mvT hZ (hw _ (ow 15 rfl))) (mvT hZ (hw _ (ow 16 rfl))) (mvT hZ (hw _ (ow 17 rfl))) (mvT hZ (hw _ (ow 18 rfl))) (by decide) (backOf (W := 0) (rm3 l Z a0 hw [] p1 ca cc T17.heap n0 sz24 O23 SC SH AC SZ256 EL) hZ (hw _ (ow 18 rfl)) (hw _ (ow 17 rfl)) (by decide) (by decide)) (g := (mkF m 60 #[.val (.int p1), .val (.long q2), .second, .val (.long q3), .second, .val (.int p4), .val (.long q5), .second, .val (.long q6), .second, .val (.ref b8), .val (.ref b13), .val (.int z19), .unset, .unset, .unset, .unset, .unset, .unset] [(.int p1)])) rfl (by rw [hml]; rfl) (argsL := [(.int p1)]) (rest := []) (lenOf pd_3 rfl) rfl (by show 2 * 0 + _ ≤ _; exact Nat.le_of_eq rfl) (hb hby at_60) (fun _ _ => ⟨rfl, rfl, (by decide : 2 + 1 ≤ _), (by decide : 6 + 1 ≤ _)⟩)
  dsimp only [Pt.U, Pt.locs, Pt.cells, Pt.slots] at X25 l25 y25 z25 st25 hQ25
  subst l25 y25 z25
  obtain ⟨b25_, rfl, N25q, K25, q25_0⟩ := hQ25
  have N25 := Fr.app N17 N25q
  have K26 : Keep h0 T17.heap [] := (Keep.trans K18 K17 (allS (P := fun x => x ∈ [] ∨ h0.size ≤ x) (Or.inr s_b13) all0))
  refine own_pre (B := T25.setTop (mkF m 63 #[.val (.int p1), .val (.long q2), .second, .val (.long q3), .second, .val (.int p4), .val (.long q5), .second, .val (.long q6), .second, .val (.ref b8), .val (.ref b13), .val (.int z19), .unset, .unset, .unset, .unset, .unset, .unset] [(.ref b25_)])) (fun t k => st25 t k) ?_
  refine own_pre (B := T25.setTop (mkF m 65 #[.val (.int p1), .val (.long q2), .second, .val (.long q3), .second, .val (.int p4), .val (.long q5), .second, .val (.long q6), .second, .val (.ref b8), .val (.ref b13), .val (.int z19), .val (.ref b25_), .unset, .unset, .unset, .unset, .unset] [])) (fun t k => XS.astore X25.here hx rfl (hb hby at_63) rfl rfl (l' := #[.val (.int p1), .val (.long q2), .second, .val (.long q3), .second, .val (.int p4), .val (.long q5), .second, .val (.long q6), .second, .val (.ref b8), .val (.ref b13), .val (.int z19), .val (.ref b25_), .unset, .unset, .unset, .unset, .unset]) rfl k) ?_
  refine own_pre (B := T25.setTop (mkF m 67 #[.val (.int p1), .val (.long q2), .second, .val (.long q3), .second, .val (.int p4), .val (.long q5), .second, .val (.long q6), .second, .val (.ref b8), .val (.ref b13), .val (.int z19), .val (.ref b25_), .unset, .unset, .unset, .unset, .unset] [(.ref b8)])) (fun t k => XS.aload X25.here hx rfl (hb hby at_65) rfl rfl k) ?_
  refine own_pre (B := T25.setTop (mkF m 69 #[.val (.int p1), .val (.long q2), .second, .val (.long q3), .second, .val (.int p4), .val (.long q5), .second, .val (.long q6), .second, .val (.ref b8), .val (.ref b13), .val (.int z19), .val (.ref b25_), .unset, .unset, .unset, .unset, .unset] [(.ref b13), (.ref b8)])) (fun t k => XS.aload X25.here hx rfl (hb hby at_67) rfl rfl k) ?_
  have c27 := (Exa.keep q17_0 K25)
  have c28 := (Fld.keep (Fld.keep (q10_1.ext E13) K17 (ninS ne15 nin0)) K25 nin0)
  have c29 := (Fld.keep q17_1 K25 nin0)
  have c30 := (Fld.keep (Fld.keep (q10_2.ext E13) K17 (ninS ne15 nin0)) K25 nin0)
  have c31 := (Fld.keep q17_2 K25 nin0)
  have c32 := (Fld.keep (Fld.keep (q10_3.ext E13) K17 (ninS ne15 nin0)) K25 nin0)
  have c33 := (Fld.keep q17_3 K25 nin0)
  have sz34 : n0 ≤ T25.heap.size := (Nat.le_trans sz24 K25.1)
  have c36 := (Exa.keep (Exa.keep (q10_0.ext E13) K17) K25)
  obtain ⟨cq35, kq35, q35a, q35b, q35c⟩ := isOf hZ rfl c36
  obtain ⟨_, _, ⟨T35, L35, k35, n35⟩, -, X35, ⟨Lc35, hQ35, l35, y35, z35⟩, st35⟩ := X25.virtualBack hx (y := (⟨"com/example/tacit_quorum/tacitquorum/server/Vote", "equals", "(Ljava/lang/Object;)Z"⟩ : MethodName)) (z := (⟨"com/example/tacit_quorum/tacitquorum/server/Vote", "equals", "(Ljava/lang/Object;)Z"⟩ : MethodName)) hown (mvT hZ (hw _ (ow 22 rfl))) (mvT hZ (hw _ (ow 23 rfl))) (notFace_of_selects (args := #[]) (mvT hZ (hw _ (ow 25 rfl)))) (mvT hZ (hw _ (ow 25 rfl))) (mvT hZ (hw _ (ow 24 rfl))) (by decide) (backOf (W := 0) (rm4 l Z a0 hw [] b8 b13 p1 (p1 ^^^ p4) q2 (q2 ^^^ q5) q3 (q3 ^^^ q6) T25.heap n0 sz34 c27 c28 c29 c30 c31 c32 c33) hZ (hw _ (ow 26 rfl)) (hw _ (ow 2 rfl)) (by decide) (by decide)) q35a q35c (g := (mkF m 69 #[.val (.int p1), .val (.long q2), .second, .val (.long q3), .second, .val (.int p4), .val (.long q5), .second, .val (.long q6), .second, .val (.ref b8), .val (.ref b13), .val (.int z19), .val (.ref b25_), .unset, .unset, .unset, .unset, .unset] [(.ref b13), (.ref b8)])) rfl (by rw [hml]; rfl) (Steps.refl _) (argsL := [(.ref b13)]) (rest := []) (lenOf pd_4 rfl) rfl (by show 2 * 0 + _ ≤ _; exact Nat.le_of_eq rfl) (hb hby at_69) (fun _ _ => ⟨rfl, rfl, (by decide : 3 + 0 ≤ _), (by decide : 7 + 0 ≤ _)⟩)
  dsimp only [Pt.U, Pt.locs, Pt.cells, Pt.slots] at X35 l35 y35 z35 st35 hQ35
  subst l35 y35 z35
  obtain ⟨rfl, N35q, e35⟩ := hQ35
  have N35 := Fr.app N25 N35q
  refine own_pre (B := T35.setTop (mkF m 72 #[.val (.int p1), .val (.long q2), .second, .val (.long q3), .second, .val (.int p4), .val (.long q5), .second, .val (.long q6), .second, .val (.ref b8), .val (.ref b13), .val (.int z19), .val (.ref b25_), .unset, .unset, .unset, .unset, .unset] [(.int (own_f4 p1 (p1 ^^^ p4) q2 (q2 ^^^ q5) q3 (q3 ^^^ q6)))])) (fun t k => st35.trans k) ?_
  refine own_pre (B := T35.setTop (mkF m 74 #[.val (.int p1), .val (.long q2), .second, .val (.long q3), .second, .val (.int p4), .val (.long q5), .second, .val (.long q6), .second, .val (.ref b8), .val (.ref b13), .val (.int z19), .val (.ref b25_), .val (.int (own_f4 p1 (p1 ^^^ p4) q2 (q2 ^^^ q5) q3 (q3 ^^^ q6))), .unset, .unset, .unset, .unset] [])) (fun t k => XS.istore X35.here hx rfl (hb hby at_72) rfl (l' := #[.val (.int p1), .val (.long q2), .second, .val (.long q3), .second, .val (.int p4), .val (.long q5), .second, .val (.long q6), .second, .val (.ref b8), .val (.ref b13), .val (.int z19), .val (.ref b25_), .val (.int (own_f4 p1 (p1 ^^^ p4) q2 (q2 ^^^ q5) q3 (q3 ^^^ q6))), .unset, .unset, .unset, .unset]) rfl k) ?_
  refine own_pre (B := T35.setTop (mkF m 76 #[.val (.int p1), .val (.long q2), .second, .val (.long q3), .second, .val (.int p4), .val (.long q5), .second, .val (.long q6), .second, .val (.ref b8), .val (.ref b13), .val (.int z19), .val (.ref b25_), .val (.int (own_f4 p1 (p1 ^^^ p4) q2 (q2 ^^^ q5) q3 (q3 ^^^ q6))), .unset, .unset, .unset, .unset] [(.ref b13)])) (fun t k => XS.aload X35.here hx rfl (hb hby at_74) rfl rfl k) ?_
  refine own_pre (B := T35.setTop (mkF m 78 #[.val (.int p1), .val (.long q2), .second, .val (.long q3), .second, .val (.int p4), .val (.long q5), .second, .val (.long q6), .second, .val (.ref b8), .val (.ref b13), .val (.int z19), .val (.ref b25_), .val (.int (own_f4 p1 (p1 ^^^ p4) q2 (q2 ^^^ q5) q3 (q3 ^^^ q6))), .unset, .unset, .unset, .unset] [(.ref b8), (.ref b13)])) (fun t k => XS.aload X35.here hx rfl (hb hby at_76) rfl rfl k) ?_
  obtain ⟨cq37, kq37, q37a, q37b, q37c⟩ := isOf hZ e35 c27
  obtain ⟨_, _, ⟨T37, L37, k37, n37⟩, -, X37, ⟨Lc37, hQ37, l37, y37, z37⟩, st37⟩ := X35.virtualBack hx (y := (⟨"com/example/tacit_quorum/tacitquorum/server/Vote", "equals", "(Ljava/lang/Object;)Z"⟩ : MethodName)) (z := (⟨"com/example/tacit_quorum/tacitquorum/server/Vote", "equals", "(Ljava/lang/Object;)Z"⟩ : MethodName)) hown (mvT hZ (hw _ (ow 22 rfl))) (mvT hZ (hw _ (ow 23 rfl))) (notFace_of_selects (args := #[]) (mvT hZ (hw _ (ow 25 rfl)))) (mvT hZ (hw _ (ow 25 rfl))) (mvT hZ (hw _ (ow 24 rfl))) (by decide) (backOf (W := 0) (rm4 l Z a0 hw [] b13 b8 (p1 ^^^ p4) p1 (q2 ^^^ q5) q2 (q3 ^^^ q6) q3 T25.heap n0 sz34 c36 c29 c28 c31 c30 c33 c32) hZ (hw _ (ow 26 rfl)) (hw _ (ow 2 rfl)) (by decide) (by decide)) q37a q37c (g := (mkF m 78 #[.val (.int p1), .val (.long q2), .second, .val (.long q3), .second, .val (.int p4), .val (.long q5), .second, .val (.long q6), .second, .val (.ref b8), .val (.ref b13), .val (.int z19), .val (.ref b25_), .val (.int (own_f4 p1 (p1 ^^^ p4) q2 (q2 ^^^ q5) q3 (q3 ^^^ q6))), .unset, .unset, .unset, .unset] [(.ref b8), (.ref b13)])) rfl (by rw [hml]; rfl) (Steps.refl _) (argsL := [(.ref b8)]) (rest := []) (lenOf pd_4 rfl) rfl (by show 2 * 0 + _ ≤ _; exact Nat.le_of_eq rfl) (hb hby at_78) (fun _ _ => ⟨rfl, e35, (by decide : 3 + 0 ≤ _), (by decide : 7 + 0 ≤ _)⟩)
  dsimp only [Pt.U, Pt.locs, Pt.cells, Pt.slots] at X37 l37 y37 z37 st37 hQ37
  subst l37 y37 z37
  obtain ⟨rfl, N37q, e37⟩ := hQ37
  have N37 := Fr.app N35 N37q
  refine own_pre (B := T37.setTop (mkF m 81 #[.val (.int p1), .val (.long q2), .second, .val (.long q3), .second, .val (.int p4), .val (.long q5), .second, .val (.long q6), .second, .val (.ref b8), .val (.ref b13), .val (.int z19), .val (.ref b25_), .val (.int (own_f4 p1 (p1 ^^^ p4) q2 (q2 ^^^ q5) q3 (q3 ^^^ q6))), .unset, .unset, .unset, .unset] [(.int (own_f4 (p1 ^^^ p4) p1 (q2 ^^^ q5) q2 (q3 ^^^ q6) q3))])) (fun t k => st37.trans k) ?_
  refine own_pre (B := T37.setTop (mkF m 83 #[.val (.int p1), .val (.long q2), .second, .val (.long q3), .second, .val (.int p4), .val (.long q5), .second, .val (.long q6), .second, .val (.ref b8), .val (.ref b13), .val (.int z19), .val (.ref b25_), .val (.int (own_f4 p1 (p1 ^^^ p4) q2 (q2 ^^^ q5) q3 (q3 ^^^ q6))), .val (.int (own_f4 (p1 ^^^ p4) p1 (q2 ^^^ q5) q2 (q3 ^^^ q6) q3)), .unset, .unset, .unset] [])) (fun t k => XS.istore X37.here hx rfl (hb hby at_81) rfl (l' := #[.val (.int p1), .val (.long q2), .second, .val (.long q3), .second, .val (.int p4), .val (.long q5), .second, .val (.long q6), .second, .val (.ref b8), .val (.ref b13), .val (.int z19), .val (.ref b25_), .val (.int (own_f4 p1 (p1 ^^^ p4) q2 (q2 ^^^ q5) q3 (q3 ^^^ q6))), .val (.int (own_f4 (p1 ^^^ p4) p1 (q2 ^^^ q5) q2 (q3 ^^^ q6) q3)), .unset, .unset, .unset]) rfl k) ?_
  refine own_pre (B := T37.setTop (mkF m 85 #[.val (.int p1), .val (.long q2), .second, .val (.long q3), .second, .val (.int p4), .val (.long q5), .second, .val (.long q6), .second, .val (.ref b8), .val (.ref b13), .val (.int z19), .val (.ref b25_), .val (.int (own_f4 p1 (p1 ^^^ p4) q2 (q2 ^^^ q5) q3 (q3 ^^^ q6))), .val (.int (own_f4 (p1 ^^^ p4) p1 (q2 ^^^ q5) q2 (q3 ^^^ q6) q3)), .unset, .unset, .unset] [(.ref b8)])) (fun t k => XS.aload X37.here hx rfl (hb hby at_83) rfl rfl k) ?_
  refine own_pre (B := T37.setTop (mkF m 87 #[.val (.int p1), .val (.long q2), .second, .val (.long q3), .second, .val (.int p4), .val (.long q5), .second, .val (.long q6), .second, .val (.ref b8), .val (.ref b13), .val (.int z19), .val (.ref b25_), .val (.int (own_f4 p1 (p1 ^^^ p4) q2 (q2 ^^^ q5) q3 (q3 ^^^ q6))), .val (.int (own_f4 (p1 ^^^ p4) p1 (q2 ^^^ q5) q2 (q3 ^^^ q6) q3)), .unset, .unset, .unset] [(.ref b8), (.ref b8)])) (fun t k => XS.aload X37.here hx rfl (hb hby at_85) rfl rfl k) ?_
  obtain ⟨cq38, kq38, q38a, q38b, q38c⟩ := isOf hZ e37 c36
  obtain ⟨_, _, ⟨T38, L38, k38, n38⟩, -, X38, ⟨Lc38, hQ38, l38, y38, z38⟩, st38⟩ := X37.virtualBack hx (y := (⟨"com/example/tacit_quorum/tacitquorum/server/Vote", "equals", "(Ljava/lang/Object;)Z"⟩ : MethodName)) (z := (⟨"com/example/tacit_quorum/tacitquorum/server/Vote", "equals", "(Ljava/lang/Object;)Z"⟩ : MethodName)) hown (mvT hZ (hw _ (ow 22 rfl))) (mvT hZ (hw _ (ow 23 rfl))) (notFace_of_selects (args := #[]) (mvT hZ (hw _ (ow 25 rfl)))) (mvT hZ (hw _ (ow 25 rfl))) (mvT hZ (hw _ (ow 24 rfl))) (by decide) (backOf (W := 0) (rm4 l Z a0 hw [] b8 b8 p1 p1 q2 q2 q3 q3 T25.heap n0 sz34 c36 c28 c28 c30 c30 c32 c32) hZ (hw _ (ow 26 rfl)) (hw _ (ow 2 rfl)) (by decide) (by decide)) q38a q38c (g := (mkF m 87 #[.val (.int p1), .val (.long q2), .second, .val (.long q3), .second, .val (.int p4), .val (.long q5), .second, .val (.long q6), .second, .val (.ref b8), .val (.ref b13), .val (.int z19), .val (.ref b25_), .val (.int (own_f4 p1 (p1 ^^^ p4) q2 (q2 ^^^ q5) q3 (q3 ^^^ q6))), .val (.int (own_f4 (p1 ^^^ p4) p1 (q2 ^^^ q5) q2 (q3 ^^^ q6) q3)), .unset, .unset, .unset] [(.ref b8), (.ref b8)])) rfl (by rw [hml]; rfl) (Steps.refl _) (argsL := [(.ref b8)]) (rest := []) (lenOf pd_4 rfl) rfl (by show 2 * 0 + _ ≤ _; exact Nat.le_of_eq rfl) (hb hby at_87) (fun _ _ => ⟨rfl, e37, (by decide : 3 + 0 ≤ _), (by decide : 7 + 0 ≤ _)⟩)
  dsimp only [Pt.U, Pt.locs, Pt.cells, Pt.slots] at X38 l38 y38 z38 st38 hQ38
  subst l38 y38 z38
  obtain ⟨rfl, N38q, e38⟩ := hQ38
  have N38 := Fr.app N37 N38q
  refine own_pre (B := T38.setTop (mkF m 90 #[.val (.int p1), .val (.long q2), .second, .val (.long q3), .second, .val (.int p4), .val (.long q5), .second, .val (.long q6), .second, .val (.ref b8), .val (.ref b13), .val (.int z19), .val (.ref b25_), .val (.int (own_f4 p1 (p1 ^^^ p4) q2 (q2 ^^^ q5) q3 (q3 ^^^ q6))), .val (.int (own_f4 (p1 ^^^ p4) p1 (q2 ^^^ q5) q2 (q3 ^^^ q6) q3)), .unset, .unset, .unset] [(.int (own_f4 p1 p1 q2 q2 q3 q3))])) (fun t k => st38.trans k) ?_
  refine own_pre (B := T38.setTop (mkF m 92 #[.val (.int p1), .val (.long q2), .second, .val (.long q3), .second, .val (.int p4), .val (.long q5), .second, .val (.long q6), .second, .val (.ref b8), .val (.ref b13), .val (.int z19), .val (.ref b25_), .val (.int (own_f4 p1 (p1 ^^^ p4) q2 (q2 ^^^ q5) q3 (q3 ^^^ q6))), .val (.int (own_f4 (p1 ^^^ p4) p1 (q2 ^^^ q5) q2 (q3 ^^^ q6) q3)), .val (.int (own_f4 p1 p1 q2 q2 q3 q3)), .unset, .unset] [])) (fun t k => XS.istore X38.here hx rfl (hb hby at_90) rfl (l' := #[.val (.int p1), .val (.long q2), .second, .val (.long q3), .second, .val (.int p4), .val (.long q5), .second, .val (.long q6), .second, .val (.ref b8), .val (.ref b13), .val (.int z19), .val (.ref b25_), .val (.int (own_f4 p1 (p1 ^^^ p4) q2 (q2 ^^^ q5) q3 (q3 ^^^ q6))), .val (.int (own_f4 (p1 ^^^ p4) p1 (q2 ^^^ q5) q2 (q3 ^^^ q6) q3)), .val (.int (own_f4 p1 p1 q2 q2 q3 q3)), .unset, .unset]) rfl k) ?_
  refine own_pre (B := T38.setTop (mkF m 94 #[.val (.int p1), .val (.long q2), .second, .val (.long q3), .second, .val (.int p4), .val (.long q5), .second, .val (.long q6), .second, .val (.ref b8), .val (.ref b13), .val (.int z19), .val (.ref b25_), .val (.int (own_f4 p1 (p1 ^^^ p4) q2 (q2 ^^^ q5) q3 (q3 ^^^ q6))), .val (.int (own_f4 (p1 ^^^ p4) p1 (q2 ^^^ q5) q2 (q3 ^^^ q6) q3)), .val (.int (own_f4 p1 p1 q2 q2 q3 q3)), .unset, .unset] [(.ref b8)])) (fun t k => XS.aload X38.here hx rfl (hb hby at_92) rfl rfl k) ?_
  refine own_pre (B := T38.setTop (mkF m 95 #[.val (.int p1), .val (.long q2), .second, .val (.long q3), .second, .val (.int p4), .val (.long q5), .second, .val (.long q6), .second, .val (.ref b8), .val (.ref b13), .val (.int z19), .val (.ref b25_), .val (.int (own_f4 p1 (p1 ^^^ p4) q2 (q2 ^^^ q5) q3 (q3 ^^^ q6))), .val (.int (own_f4 (p1 ^^^ p4) p1 (q2 ^^^ q5) q2 (q3 ^^^ q6) q3)), .val (.int (own_f4 p1 p1 q2 q2 q3 q3)), .unset, .unset] [.null, (.ref b8)])) (fun t k => XS.aconstNull X38.here hx rfl (hb hby at_94) k) ?_
  obtain ⟨cq39, kq39, q39a, q39b, q39c⟩ := isOf hZ e38 c36
  obtain ⟨_, _, ⟨T39, L39, k39, n39⟩, -, X39, ⟨Lc39, hQ39, l39, y39, z39⟩, st39⟩ := X38.virtualBack hx (y := (⟨"com/example/tacit_quorum/tacitquorum/server/Vote", "equals", "(Ljava/lang/Object;)Z"⟩ : MethodName)) (z := (⟨"com/example/tacit_quorum/tacitquorum/server/Vote", "equals", "(Ljava/lang/Object;)Z"⟩ : MethodName)) hown (mvT hZ (hw _ (ow 22 rfl))) (mvT hZ (hw _ (ow 23 rfl))) (notFace_of_selects (args := #[]) (mvT hZ (hw _ (ow 25 rfl)))) (mvT hZ (hw _ (ow 25 rfl))) (mvT hZ (hw _ (ow 24 rfl))) (by decide) (backOf (W := 0) (rm4n l Z a0 hw [] b8 T25.heap n0 sz34 ) hZ (hw _ (ow 26 rfl)) (hw _ (ow 2 rfl)) (by decide) (by decide)) q39a q39c (g := (mkF m 95 #[.val (.int p1), .val (.long q2), .second, .val (.long q3), .second, .val (.int p4), .val (.long q5), .second, .val (.long q6), .second, .val (.ref b8), .val (.ref b13), .val (.int z19), .val (.ref b25_), .val (.int (own_f4 p1 (p1 ^^^ p4) q2 (q2 ^^^ q5) q3 (q3 ^^^ q6))), .val (.int (own_f4 (p1 ^^^ p4) p1 (q2 ^^^ q5) q2 (q3 ^^^ q6) q3)), .val (.int (own_f4 p1 p1 q2 q2 q3 q3)), .unset, .unset] [.null, (.ref b8)])) rfl (by rw [hml]; rfl) (Steps.refl _) (argsL := [.null]) (rest := []) (lenOf pd_4 rfl) rfl (by show 2 * 0 + _ ≤ _; exact Nat.le_of_eq rfl) (hb hby at_95) (fun _ _ => ⟨rfl, e38, (by decide : 3 + 0 ≤ _), (by decide : 7 + 0 ≤ _)⟩)
  dsimp only [Pt.U, Pt.locs, Pt.cells, Pt.slots] at X39 l39 y39 z39 st39 hQ39
  subst l39 y39 z39
  obtain ⟨rfl, N39q, e39⟩ := hQ39
  have N39 := Fr.app N38 N39q
  refine own_pre (B := T39.setTop (mkF m 98 #[.val (.int p1), .val (.long q2), .second, .val (.long q3), .second, .val (.int p4), .val (.long q5), .second, .val (.long q6), .second, .val (.ref b8), .val (.ref b13), .val (.int z19), .val (.ref b25_), .val (.int (own_f4 p1 (p1 ^^^ p4) q2 (q2 ^^^ q5) q3 (q3 ^^^ q6))), .val (.int (own_f4 (p1 ^^^ p4) p1 (q2 ^^^ q5) q2 (q3 ^^^ q6) q3)), .val (.int (own_f4 p1 p1 q2 q2 q3 q3)), .unset, .unset] [(.int own_f4n)])) (fun t k => st39.trans k) ?_
  refine own_pre (B := T39.setTop (mkF m 100 #[.val (.int p1), .val (.long q2), .second, .val (.long q3), .second, .val (.int p4), .val (.long q5), .second, .val (.long q6), .second, .val (.ref b8), .val (.ref b13), .val (.int z19), .val (.ref b25_), .val (.int (own_f4 p1 (p1 ^^^ p4) q2 (q2 ^^^ q5) q3 (q3 ^^^ q6))), .val (.int (own_f4 (p1 ^^^ p4) p1 (q2 ^^^ q5) q2 (q3 ^^^ q6) q3)), .val (.int (own_f4 p1 p1 q2 q2 q3 q3)), .val (.int own_f4n), .unset] [])) (fun t k => XS.istore X39.here hx rfl (hb hby at_98) rfl (l' := #[.val (.int p1), .val (.long q2), .second, .val (.long q3), .second, .val (.int p4), .val (.long q5), .second, .val (.long q6), .second, .val (.ref b8), .val (.ref b13), .val (.int z19), .val (.ref b25_), .val (.int (own_f4 p1 (p1 ^^^ p4) q2 (q2 ^^^ q5) q3 (q3 ^^^ q6))), .val (.int (own_f4 (p1 ^^^ p4) p1 (q2 ^^^ q5) q2 (q3 ^^^ q6) q3)), .val (.int (own_f4 p1 p1 q2 q2 q3 q3)), .val (.int own_f4n), .unset]) rfl k) ?_
  refine own_pre (B := T39.setTop (mkF m 102 #[.val (.int p1), .val (.long q2), .second, .val (.long q3), .second, .val (.int p4), .val (.long q5), .second, .val (.long q6), .second, .val (.ref b8), .val (.ref b13), .val (.int z19), .val (.ref b25_), .val (.int (own_f4 p1 (p1 ^^^ p4) q2 (q2 ^^^ q5) q3 (q3 ^^^ q6))), .val (.int (own_f4 (p1 ^^^ p4) p1 (q2 ^^^ q5) q2 (q3 ^^^ q6) q3)), .val (.int (own_f4 p1 p1 q2 q2 q3 q3)), .val (.int own_f4n), .unset] [(.ref b8)])) (fun t k => XS.aload X39.here hx rfl (hb hby at_100) rfl rfl k) ?_
  refine own_pre (B := T39.setTop (mkF m 104 #[.val (.int p1), .val (.long q2), .second, .val (.long q3), .second, .val (.int p4), .val (.long q5), .second, .val (.long q6), .second, .val (.ref b8), .val (.ref b13), .val (.int z19), .val (.ref b25_), .val (.int (own_f4 p1 (p1 ^^^ p4) q2 (q2 ^^^ q5) q3 (q3 ^^^ q6))), .val (.int (own_f4 (p1 ^^^ p4) p1 (q2 ^^^ q5) q2 (q3 ^^^ q6) q3)), .val (.int (own_f4 p1 p1 q2 q2 q3 q3)), .val (.int own_f4n), .unset] [(.ref b25_), (.ref b8)])) (fun t k => XS.aload X39.here hx rfl (hb hby at_102) rfl rfl k) ?_
  obtain ⟨cq40, kq40, q40a, q40b, q40c⟩ := isOf hZ e39 c36
  obtain ⟨_, _, ⟨T40, L40, k40, n40⟩, -, X40, ⟨Lc40, hQ40, l40, y40, z40⟩, st40⟩ := X39.virtualBack hx (y := (⟨"com/example/tacit_quorum/tacitquorum/server/Vote", "equals", "(Ljava/lang/Object;)Z"⟩ : MethodName)) (z := (⟨"com/example/tacit_quorum/tacitquorum/server/Vote", "equals", "(Ljava/lang/Object;)Z"⟩ : MethodName)) hown (mvT hZ (hw _ (ow 22 rfl))) (mvT hZ (hw _ (ow 23 rfl))) (notFace_of_selects (args := #[]) (mvT hZ (hw _ (ow 25 rfl)))) (mvT hZ (hw _ (ow 25 rfl))) (mvT hZ (hw _ (ow 24 rfl))) (by decide) (backOf (W := 0) (rm4x l Z a0 hw [] b8 b25_ T25.heap n0 sz34 q25_0) hZ (hw _ (ow 26 rfl)) (hw _ (ow 2 rfl)) (by decide) (by decide)) q40a q40c (g := (mkF m 104 #[.val (.int p1), .val (.long q2), .second, .val (.long q3), .second, .val (.int p4), .val (.long q5), .second, .val (.long q6), .second, .val (.ref b8), .val (.ref b13), .val (.int z19), .val (.ref b25_), .val (.int (own_f4 p1 (p1 ^^^ p4) q2 (q2 ^^^ q5) q3 (q3 ^^^ q6))), .val (.int (own_f4 (p1 ^^^ p4) p1 (q2 ^^^ q5) q2 (q3 ^^^ q6) q3)), .val (.int (own_f4 p1 p1 q2 q2 q3 q3)), .val (.int own_f4n), .unset] [(.ref b25_), (.ref b8)])) rfl (by rw [hml]; rfl) (Steps.refl _) (argsL := [(.ref b25_)]) (rest := []) (lenOf pd_4 rfl) rfl (by show 2 * 0 + _ ≤ _; exact Nat.le_of_eq rfl) (hb hby at_104) (fun _ _ => ⟨rfl, e39, (by decide : 3 + 0 ≤ _), (by decide : 7 + 0 ≤ _)⟩)
  dsimp only [Pt.U, Pt.locs, Pt.cells, Pt.slots] at X40 l40 y40 z40 st40 hQ40
  subst l40 y40 z40
  obtain ⟨rfl, N40q, e40⟩ := hQ40
  have N40 := Fr.app N39 N40q
  refine own_pre (B := T40.setTop (mkF m 107 #[.val (.int p1), .val (.long q2), .second, .val (.long q3), .second, .val (.int p4), .val (.long q5), .second, .val (.long q6), .second, .val (.ref b8), .val (.ref b13), .val (.int z19), .val (.ref b25_), .val (.int (own_f4 p1 (p1 ^^^ p4) q2 (q2 ^^^ q5) q3 (q3 ^^^ q6))), .val (.int (own_f4 (p1 ^^^ p4) p1 (q2 ^^^ q5) q2 (q3 ^^^ q6) q3)), .val (.int (own_f4 p1 p1 q2 q2 q3 q3)), .val (.int own_f4n), .unset] [(.int own_f4x)])) (fun t k => st40.trans k) ?_
  refine own_pre (B := T40.setTop (mkF m 109 #[.val (.int p1), .val (.long q2), .second, .val (.long q3), .second, .val (.int p4), .val (.long q5), .second, .val (.long q6), .second, .val (.ref b8), .val (.ref b13), .val (.int z19), .val (.ref b25_), .val (.int (own_f4 p1 (p1 ^^^ p4) q2 (q2 ^^^ q5) q3 (q3 ^^^ q6))), .val (.int (own_f4 (p1 ^^^ p4) p1 (q2 ^^^ q5) q2 (q3 ^^^ q6) q3)), .val (.int (own_f4 p1 p1 q2 q2 q3 q3)), .val (.int own_f4n), .val (.int own_f4x)] [])) (fun t k => XS.istore X40.here hx rfl (hb hby at_107) rfl (l' := #[.val (.int p1), .val (.long q2), .second, .val (.long q3), .second, .val (.int p4), .val (.long q5), .second, .val (.long q6), .second, .val (.ref b8), .val (.ref b13), .val (.int z19), .val (.ref b25_), .val (.int (own_f4 p1 (p1 ^^^ p4) q2 (q2 ^^^ q5) q3 (q3 ^^^ q6))), .val (.int (own_f4 (p1 ^^^ p4) p1 (q2 ^^^ q5) q2 (q3 ^^^ q6) q3)), .val (.int (own_f4 p1 p1 q2 q2 q3 q3)), .val (.int own_f4n), .val (.int own_f4x)]) rfl k) ?_
  refine own_pre (B := T40.setTop (mkF m 111 #[.val (.int p1), .val (.long q2), .second, .val (.long q3), .second, .val (.int p4), .val (.long q5), .second, .val (.long q6), .second, .val (.ref b8), .val (.ref b13), .val (.int z19), .val (.ref b25_), .val (.int (own_f4 p1 (p1 ^^^ p4) q2 (q2 ^^^ q5) q3 (q3 ^^^ q6))), .val (.int (own_f4 (p1 ^^^ p4) p1 (q2 ^^^ q5) q2 (q3 ^^^ q6) q3)), .val (.int (own_f4 p1 p1 q2 q2 q3 q3)), .val (.int own_f4n), .val (.int own_f4x)] [(.int (own_f4 p1 (p1 ^^^ p4) q2 (q2 ^^^ q5) q3 (q3 ^^^ q6)))])) (fun t k => XS.iload X40.here hx rfl (hb hby at_109) rfl k) ?_
  refine own_pre (B := T40.setTop (mkF m 113 #[.val (.int p1), .val (.long q2), .second, .val (.long q3), .second, .val (.int p4), .val (.long q5), .second, .val (.long q6), .second, .val (.ref b8), .val (.ref b13), .val (.int z19), .val (.ref b25_), .val (.int (own_f4 p1 (p1 ^^^ p4) q2 (q2 ^^^ q5) q3 (q3 ^^^ q6))), .val (.int (own_f4 (p1 ^^^ p4) p1 (q2 ^^^ q5) q2 (q3 ^^^ q6) q3)), .val (.int (own_f4 p1 p1 q2 q2 q3 q3)), .val (.int own_f4n), .val (.int own_f4x)] [(.int z19), (.int (own_f4 p1 (p1 ^^^ p4) q2 (q2 ^^^ q5) q3 (q3 ^^^ q6)))])) (fun t k => XS.iload X40.here hx rfl (hb hby at_111) rfl k) ?_
  refine own_pre (B := T40.setTop (mkF m 116 #[.val (.int p1), .val (.long q2), .second, .val (.long q3), .second, .val (.int p4), .val (.long q5), .second, .val (.long q6), .second, .val (.ref b8), .val (.ref b13), .val (.int z19), .val (.ref b25_), .val (.int (own_f4 p1 (p1 ^^^ p4) q2 (q2 ^^^ q5) q3 (q3 ^^^ q6))), .val (.int (own_f4 (p1 ^^^ p4) p1 (q2 ^^^ q5) q2 (q3 ^^^ q6) q3)), .val (.int (own_f4 p1 p1 q2 q2 q3 q3)), .val (.int own_f4n), .val (.int own_f4x)] [])) (fun t k => XS.icmpNo X40.here hx rfl (hb hby at_113) rfl (teq (by rw [hz19]; exact own_ab _ _ _ _ _ _)).2 k) ?_
  refine own_pre (B := T40.setTop (mkF m 118 #[.val (.int p1), .val (.long q2), .second, .val (.long q3), .second, .val (.int p4), .val (.long q5), .second, .val (.long q6), .second, .val (.ref b8), .val (.ref b13), .val (.int z19), .val (.ref b25_), .val (.int (own_f4 p1 (p1 ^^^ p4) q2 (q2 ^^^ q5) q3 (q3 ^^^ q6))), .val (.int (own_f4 (p1 ^^^ p4) p1 (q2 ^^^ q5) q2 (q3 ^^^ q6) q3)), .val (.int (own_f4 p1 p1 q2 q2 q3 q3)), .val (.int own_f4n), .val (.int own_f4x)] [(.int (own_f4 (p1 ^^^ p4) p1 (q2 ^^^ q5) q2 (q3 ^^^ q6) q3))])) (fun t k => XS.iload X40.here hx rfl (hb hby at_116) rfl k) ?_
  refine own_pre (B := T40.setTop (mkF m 120 #[.val (.int p1), .val (.long q2), .second, .val (.long q3), .second, .val (.int p4), .val (.long q5), .second, .val (.long q6), .second, .val (.ref b8), .val (.ref b13), .val (.int z19), .val (.ref b25_), .val (.int (own_f4 p1 (p1 ^^^ p4) q2 (q2 ^^^ q5) q3 (q3 ^^^ q6))), .val (.int (own_f4 (p1 ^^^ p4) p1 (q2 ^^^ q5) q2 (q3 ^^^ q6) q3)), .val (.int (own_f4 p1 p1 q2 q2 q3 q3)), .val (.int own_f4n), .val (.int own_f4x)] [(.int z19), (.int (own_f4 (p1 ^^^ p4) p1 (q2 ^^^ q5) q2 (q3 ^^^ q6) q3))])) (fun t k => XS.iload X40.here hx rfl (hb hby at_118) rfl k) ?_
  refine own_pre (B := T40.setTop (mkF m 123 #[.val (.int p1), .val (.long q2), .second, .val (.long q3), .second, .val (.int p4), .val (.long q5), .second, .val (.long q6), .second, .val (.ref b8), .val (.ref b13), .val (.int z19), .val (.ref b25_), .val (.int (own_f4 p1 (p1 ^^^ p4) q2 (q2 ^^^ q5) q3 (q3 ^^^ q6))), .val (.int (own_f4 (p1 ^^^ p4) p1 (q2 ^^^ q5) q2 (q3 ^^^ q6) q3)), .val (.int (own_f4 p1 p1 q2 q2 q3 q3)), .val (.int own_f4n), .val (.int own_f4x)] [])) (fun t k => XS.icmpNo X40.here hx rfl (hb hby at_120) rfl (teq (by rw [hz19]; exact own_ba _ _ _ _ _ _)).2 k) ?_
  refine own_pre (B := T40.setTop (mkF m 125 #[.val (.int p1), .val (.long q2), .second, .val (.long q3), .second, .val (.int p4), .val (.long q5), .second, .val (.long q6), .second, .val (.ref b8), .val (.ref b13), .val (.int z19), .val (.ref b25_), .val (.int (own_f4 p1 (p1 ^^^ p4) q2 (q2 ^^^ q5) q3 (q3 ^^^ q6))), .val (.int (own_f4 (p1 ^^^ p4) p1 (q2 ^^^ q5) q2 (q3 ^^^ q6) q3)), .val (.int (own_f4 p1 p1 q2 q2 q3 q3)), .val (.int own_f4n), .val (.int own_f4x)] [(.int (own_f4 p1 p1 q2 q2 q3 q3))])) (fun t k => XS.iload X40.here hx rfl (hb hby at_123) rfl k) ?_
  refine own_pre (B := T40.setTop (mkF m 128 #[.val (.int p1), .val (.long q2), .second, .val (.long q3), .second, .val (.int p4), .val (.long q5), .second, .val (.long q6), .second, .val (.ref b8), .val (.ref b13), .val (.int z19), .val (.ref b25_), .val (.int (own_f4 p1 (p1 ^^^ p4) q2 (q2 ^^^ q5) q3 (q3 ^^^ q6))), .val (.int (own_f4 (p1 ^^^ p4) p1 (q2 ^^^ q5) q2 (q3 ^^^ q6) q3)), .val (.int (own_f4 p1 p1 q2 q2 q3 q3)), .val (.int own_f4n), .val (.int own_f4x)] [])) (fun t k => XS.ifNo X40.here hx rfl (hb hby at_125) rfl ((if0 _ _).trans (feq (own_aa _ _ _)).1) k) ?_
  refine own_pre (B := T40.setTop (mkF m 130 #[.val (.int p1), .val (.long q2), .second, .val (.long q3), .second, .val (.int p4), .val (.long q5), .second, .val (.long q6), .second, .val (.ref b8), .val (.ref b13), .val (.int z19), .val (.ref b25_), .val (.int (own_f4 p1 (p1 ^^^ p4) q2 (q2 ^^^ q5) q3 (q3 ^^^ q6))), .val (.int (own_f4 (p1 ^^^ p4) p1 (q2 ^^^ q5) q2 (q3 ^^^ q6) q3)), .val (.int (own_f4 p1 p1 q2 q2 q3 q3)), .val (.int own_f4n), .val (.int own_f4x)] [(.int own_f4n)])) (fun t k => XS.iload X40.here hx rfl (hb hby at_128) rfl k) ?_
  refine own_pre (B := T40.setTop (mkF m 133 #[.val (.int p1), .val (.long q2), .second, .val (.long q3), .second, .val (.int p4), .val (.long q5), .second, .val (.long q6), .second, .val (.ref b8), .val (.ref b13), .val (.int z19), .val (.ref b25_), .val (.int (own_f4 p1 (p1 ^^^ p4) q2 (q2 ^^^ q5) q3 (q3 ^^^ q6))), .val (.int (own_f4 (p1 ^^^ p4) p1 (q2 ^^^ q5) q2 (q3 ^^^ q6) q3)), .val (.int (own_f4 p1 p1 q2 q2 q3 q3)), .val (.int own_f4n), .val (.int own_f4x)] [])) (fun t k => XS.ifNo X40.here hx rfl (hb hby at_130) rfl ((if0 _ _).trans (teq (by rfl : own_f4n = (0 : Int32))).2) k) ?_
  refine own_pre (B := T40.setTop (mkF m 135 #[.val (.int p1), .val (.long q2), .second, .val (.long q3), .second, .val (.int p4), .val (.long q5), .second, .val (.long q6), .second, .val (.ref b8), .val (.ref b13), .val (.int z19), .val (.ref b25_), .val (.int (own_f4 p1 (p1 ^^^ p4) q2 (q2 ^^^ q5) q3 (q3 ^^^ q6))), .val (.int (own_f4 (p1 ^^^ p4) p1 (q2 ^^^ q5) q2 (q3 ^^^ q6) q3)), .val (.int (own_f4 p1 p1 q2 q2 q3 q3)), .val (.int own_f4n), .val (.int own_f4x)] [(.int own_f4x)])) (fun t k => XS.iload X40.here hx rfl (hb hby at_133) rfl k) ?_
  refine own_pre (B := T40.setTop (mkF m 138 #[.val (.int p1), .val (.long q2), .second, .val (.long q3), .second, .val (.int p4), .val (.long q5), .second, .val (.long q6), .second, .val (.ref b8), .val (.ref b13), .val (.int z19), .val (.ref b25_), .val (.int (own_f4 p1 (p1 ^^^ p4) q2 (q2 ^^^ q5) q3 (q3 ^^^ q6))), .val (.int (own_f4 (p1 ^^^ p4) p1 (q2 ^^^ q5) q2 (q3 ^^^ q6) q3)), .val (.int (own_f4 p1 p1 q2 q2 q3 q3)), .val (.int own_f4n), .val (.int own_f4x)] [])) (fun t k => XS.ifNo X40.here hx rfl (hb hby at_135) rfl ((if0 _ _).trans (teq (by rfl : own_f4x = (0 : Int32))).2) k) ?_
  refine own_pre (B := T40.setTop (mkF m 139 #[.val (.int p1), .val (.long q2), .second, .val (.long q3), .second, .val (.int p4), .val (.long q5), .second, .val (.long q6), .second, .val (.ref b8), .val (.ref b13), .val (.int z19), .val (.ref b25_), .val (.int (own_f4 p1 (p1 ^^^ p4) q2 (q2 ^^^ q5) q3 (q3 ^^^ q6))), .val (.int (own_f4 (p1 ^^^ p4) p1 (q2 ^^^ q5) q2 (q3 ^^^ q6) q3)), .val (.int (own_f4 p1 p1 q2 q2 q3 q3)), .val (.int own_f4n), .val (.int own_f4x)] [(.int (1 : Int32))])) (fun t k => XS.iconst X40.here hx rfl (hb hby at_138) k) ?_
  refine own_pre (B := T40.setTop (mkF m 143 #[.val (.int p1), .val (.long q2), .second, .val (.long q3), .second, .val (.int p4), .val (.long q5), .second, .val (.long q6), .second, .val (.ref b8), .val (.ref b13), .val (.int z19), .val (.ref b25_), .val (.int (own_f4 p1 (p1 ^^^ p4) q2 (q2 ^^^ q5) q3 (q3 ^^^ q6))), .val (.int (own_f4 (p1 ^^^ p4) p1 (q2 ^^^ q5) q2 (q3 ^^^ q6) q3)), .val (.int (own_f4 p1 p1 q2 q2 q3 q3)), .val (.int own_f4n), .val (.int own_f4x)] [(.int (1 : Int32))])) (fun t k => XS.goto X40.here hx rfl (pc0 := 139) (pc' := 143) rfl (hb hby at_139) (by decide) (by decide) k) ?_
  obtain ⟨fsr41, hrr41, hrunr41, hendedr41, hWr41, hsamer41⟩ := X40.leave (v := some (.int (1 : Int32))) (fun h => by rw [Bd.returns] at h; cases h)
  refine ⟨_, _, (retN X40 hx (t := .boolean) Bd.returns (by simp) (hb hby at_143) hrr41), hrunr41, hendedr41, _, _, rfl, ?_, ⟨_, rfl⟩, hWr41, hsamer41.mono (by decide) (by decide)⟩
  show Q0 Z p1 q2 q3 p4 q5 q6 ca cc h0 n0 _ T40.heap _
  rw [e40]
  exact ⟨rfl, N40⟩
set_option maxRecDepth 65536 in
set_option maxHeartbeats 40000000 in
theorem comes_1 {Post : Tables → Env → Array Value → State → Outcome → State → Prop} (hpost : ∀ tb e args s v u, (limb_1_1.after args s (.returned v) u = true ∧ limb_1_2.after args s (.returned v) u = true ∧ True) → FrameEnd s (.returned v) u (Jvm.fieldLocs frame_1_writes args s ++ Jvm.arrayLocs frame_1_arrays args s ++ Jvm.staticLocs frame_1_statics s) 16 128 → Post tb e args s (.returned v) u) :
    ArmFor flags0 classFile x code maxLocals ret World_1 tables_1 room_1 Calls_1 rest_1 Pre_1 Post := by
  intro l hfl _ _ p e ha hc hk s m args below hf hA hF happ hP
  obtain ⟨hcalls, hrest, hpre⟩ := hP
  obtain ⟨-, -, -, hnamed, -, -, -, hat⟩ := (Spec.applies_iff hf).mp happ
  obtain ⟨hg, hn⟩ := and_e (Cond.before_iff.mp (show (Jvm.Cond.and given_1 narrow_1).before args s = true from hpre))
  obtain ⟨g1, g2⟩ := and_e hg
  obtain ⟨g3, g4⟩ := and_e g2
  obtain ⟨g5, g6⟩ := and_e g4
  obtain ⟨g7, g8⟩ := and_e g6
  obtain ⟨g9, g10⟩ := and_e g8
  obtain ⟨g11, g12⟩ := and_e g10
  obtain ⟨w0, w1, w2, w3, w4, w5, rfl⟩ : ∃ w0 w1 w2 w3 w4 w5 : Value, args = #[w0, w1, w2, w3, w4, w5] := by
    have hs : args.size = 6 := by simpa [Cond.value, given_1] using g1
    obtain ⟨L⟩ := args
    match L, hs with
    | [w0, w1, w2, w3, w4, w5], _ => exact ⟨w0, w1, w2, w3, w4, w5, rfl⟩
  have hw := fun d (hd : d ∈ tables_1) => atoms_spec (ws := Jvm.Cond.code x code maxLocals ret :: tables_1) hat d (List.mem_cons_of_mem _ hd)
  have hfit : Fit s := fun {y c} hc i hi => by
    obtain ⟨ha, rfl⟩ := Array.getElem?_eq_some_iff.mp hc
    have q := List.all_eq_true.mp ((Array.all_eq_true_iff_forall_mem.mp hF) _ (Array.getElem_mem ha)) i (List.mem_range.mpr hi)
    simpa [Array.getElem?_eq_getElem hi] using q
  obtain ⟨hsets, hown0⟩ := atoms_of _ (rest_1_c_eq ▸ (show rest_1_c.before _ s = true from hrest))
  have hr0 := Cond.before_iff.mp hown0
  obtain ⟨i0, ei0⟩ := is_v g3
  obtain rfl : w0 = (.int i0) := Option.some.inj ei0
  obtain ⟨i1, ei1⟩ := isL_v g5
  obtain rfl : w1 = (.long i1) := Option.some.inj ei1
  obtain ⟨i2, ei2⟩ := isL_v g7
  obtain rfl : w2 = (.long i2) := Option.some.inj ei2
  obtain ⟨i3, ei3⟩ := is_v g9
  obtain rfl : w3 = (.int i3) := Option.some.inj ei3
  obtain ⟨i4, ei4⟩ := isL_v g11
  obtain rfl : w4 = (.long i4) := Option.some.inj ei4
  obtain ⟨i5, ei5⟩ := isL_v g12
  obtain rfl : w5 = (.long i5) := Option.some.inj ei5
  have eH : (Term.static "java/lang/Integer$IntegerCache" "high" "I").eval _ s none [] s = some (.int (127 : Int32)) := Cond.eq_int (hsets _ (List.mem_of_getElem? (i := 3) rfl)) (Term.int_eval (127))
  have SH : Sta s s.heap "java/lang/Integer$IntegerCache" "high" "I" (.int (127 : Int32)) := Sta.start eH (Or.inl (hsets _ (List.mem_of_getElem? (i := 1) rfl)))
  obtain ⟨ca, cc, eC, AC, SZ256, EL⟩ := own_cache (hsets _ (List.mem_of_getElem? (i := 4) rfl)) (hsets _ (List.mem_of_getElem? (i := 6) rfl)) (hsets _ (List.mem_of_getElem? (i := 7) rfl))
  have SC : Sta s s.heap "java/lang/Integer$IntegerCache" "cache" "[Ljava/lang/Integer;" (.ref ca) := Sta.start eC (Or.inr ⟨(hw _ (ow 20 rfl)), (hsets _ (List.mem_of_getElem? (i := 2) rfl))⟩)
  obtain ⟨n, o, h1, h2, h3, _, L, rfl, ⟨rfl, N⟩, hq⟩ := rm0 l s _ hw tables_1 i0 i1 i2 i3 i4 i5 ca cc s.heap s.heap.size (Nat.le_refl _) (Old.start s) SC SH AC SZ256 EL p e ha hc hk s m _ below hf ((Spec.applies_iff_loose hf).mp happ).1 ⟨rfl, State.Warmed39.refl s, rfl⟩ trivial
  refine ⟨n, _, h1, h2, h3, hpost _ _ _ _ _ _ ⟨Cond.after_iff.mpr rfl, Cond.after_iff.mpr (eq_i res_at (Term.int_eval (1)) rfl), trivial⟩ ⟨hq.1, hq.2.1, (hq.2.2.sift fun y hy => Or.inr (N y hy)).mono (by decide) (by decide)⟩⟩
theorem main_1_1 : Claimed_1_1 := comes_1 fun _ _ _ _ _ _ h hF => ⟨h.1, hF⟩
theorem main_1_2 : Claimed_1_2 := comes_1 fun _ _ _ _ _ _ h hF => ⟨h.2.1, hF⟩
end Jvm.Pilot.@@N@@
namespace Jvm.Pilot.@@N@@
open Jvm Jvm.ClassFile Sem Op Lib Jvm.Free Jvm.Stand Jvm.Pilot.@@N@@.Jvm.D
/-! MADE BY PROGRAM (witnessworld.py) out of the Statement's table words and the real class files: 16 classes; the members and pool entries that the words name. The judged class is class 1, her method 1. -/
namespace start1
open Jvm.ClassFile
def u (s : String) : CpInfo := .utf8 (stringToUtf16 s)
/-- a pool by its gaps: so many unusable entries, then the entry; so many at the end -/
def gap : Nat → List CpInfo → List CpInfo
  | 0, r => r
  | n + 1, r => .unusable :: gap n r
def poolList (es : List (Nat × CpInfo)) (last : Nat) : List CpInfo := es.foldr (fun e r => gap e.1 (e.2 :: r)) (gap last [])
def pool (es : List (Nat × CpInfo)) (last : Nat) : Array CpInfo := ⟨poolList es last⟩
def fileOf (pool : Array CpInfo) (this : Nat) (attrs : Array Attribute := #[]) (ms : Array MethodInfo := #[]) (fl : Nat := 33) (sup : Nat := 0) (ifs : Array Nat := #[]) (fds : Array FieldInfo := #[]) : ClassFile where
  minorVersion := 0
  majorVersion := 65
  constantPool := pool
  accessFlags := fl
  thisClass := this
  superClass := sup
  interfaces := ifs
  fields := fds
  methods := ms
  attributes := attrs
def plain (name : String) (sup : Option ClassId) : Class where
  name := name
  kind := .ordinary
  loader := none
  accessFlags := 33
  super := sup
  interfaces := #[]
  cf := none
  fields := #[]
  methods := #[]
  instanceTypes := #[]
  staticTypes := #[]
  resolved := #[]
  callSites := []
  init := .initialized
  statics := none
  mirror := none

def pool0 : Array CpInfo := pool [(5, u "<init>"), (0, u "()V"), (1, .class_ 10), (1, u "java/lang/Object")] 113

def k0c0 : Code := { maxStack := 0, maxLocals := 1, code := object_method_1_code, exceptionTable := #[], attributes := #[] }
def k0m0 : Method := { name := "<init>", desc := "()V", sig := { parameters := [], returnType := none }, accessFlags := 1, code := some k0c0 }
/-- java/lang/Object -/
def k0 : Class := { plain "java/lang/Object" none with
  accessFlags := 33
  interfaces := #[]
  cf := some (fileOf pool0 8 #[] #[{ accessFlags := 1, nameIndex := 5, descriptorIndex := 6, attributes := #[] }] 33 0 #[] #[])
  fields := #[]
  methods := #[k0m0]
  instanceTypes := #[]
  staticTypes := #[]
  resolved := Array.replicate 124 none
  statics := none }

def pool1 : Array CpInfo := pool [(2, .class_ 4), (1, u "java/lang/Object"), (0, u "<init>"), (0, u "()V"), (0, .class_ 8), (0, u "com/example/tacit_quorum/tacitquorum/server/Vote"), (0, .methodref 7 10), (0, .nameAndType 5 11), (0, u "(IJJ)V"), (0, .methodref 13 14), (0, .class_ 15), (0, .nameAndType 16 17), (0, u "java/lang/Integer"), (0, u "valueOf"), (0, u "(I)Ljava/lang/Integer;"), (0, .methodref 7 19), (0, .nameAndType 20 21), (0, u "equals"), (0, u "(Ljava/lang/Object;)Z"), (0, .class_ 23), (0, u "com/example/tacit_quorum/tacitquorum/server/VoteEqualsPinLaw"), (2, u "law"), (0, u "(IJJIJJ)Z")] 3

def k1m0 : Method := { name := "<init>", desc := "()V", sig := { parameters := [], returnType := none }, accessFlags := 1, code := none }
def k1c1 : Code := { maxStack := 9, maxLocals := 19, code := code, exceptionTable := #[], attributes := #[] }
def k1m1 : Method := { name := "law", desc := "(IJJIJJ)Z", sig := { parameters := [.int, .long, .long, .int, .long, .long], returnType := some .boolean }, accessFlags := 9, code := some k1c1 }
/-- com/example/tacit_quorum/tacitquorum/server/VoteEqualsPinLaw -/
def k1 : Class := { plain "com/example/tacit_quorum/tacitquorum/server/VoteEqualsPinLaw" (some 0) with
  accessFlags := 49
  interfaces := #[]
  cf := some (fileOf pool1 22 #[] #[{ accessFlags := 1, nameIndex := 5, descriptorIndex := 6, attributes := #[] }, { accessFlags := 9, nameIndex := 26, descriptorIndex := 27, attributes := #[] }] 49 2 #[] #[])
  fields := #[]
  methods := #[k1m0, k1m1]
  instanceTypes := #[]
  staticTypes := #[]
  resolved := Array.replicate 31 none
  statics := none }

def pool2 : Array CpInfo := pool [(1, .methodref 2 3), (0, .class_ 4), (0, .nameAndType 5 6), (0, u "java/lang/Object"), (0, u "<init>"), (0, u "()V"), (0, .fieldref 8 9), (0, .class_ 10), (0, .nameAndType 11 12), (0, u "com/example/tacit_quorum/tacitquorum/server/Vote"), (0, u "leader"), (0, u "I"), (0, .fieldref 8 14), (0, .nameAndType 15 16), (0, u "zxid"), (0, u "J"), (0, .fieldref 8 18), (0, .nameAndType 19 16), (0, u "epoch"), (18, u "(IJJ)V"), (9, u "equals"), (0, u "(Ljava/lang/Object;)Z")] 19

def k2c0 : Code := { maxStack := 3, maxLocals := 6, code := prog_48_method_1_code, exceptionTable := #[], attributes := #[] }
def k2m0 : Method := { name := "<init>", desc := "(IJJ)V", sig := { parameters := [.int, .long, .long], returnType := none }, accessFlags := 0, code := some k2c0 }
def k2c1 : Code := { maxStack := 4, maxLocals := 3, code := prog_48_method_7_code, exceptionTable := #[], attributes := #[] }
def k2m1 : Method := { name := "equals", desc := "(Ljava/lang/Object;)Z", sig := { parameters := [(.object "java/lang/Object")], returnType := some .boolean }, accessFlags := 1, code := some k2c1 }
/-- com/example/tacit_quorum/tacitquorum/server/Vote -/
def k2 : Class := { plain "com/example/tacit_quorum/tacitquorum/server/Vote" (some 0) with
  accessFlags := 48
  interfaces := #[]
  cf := some (fileOf pool2 8 #[] #[{ accessFlags := 0, nameIndex := 5, descriptorIndex := 38, attributes := #[] }, { accessFlags := 1, nameIndex := 48, descriptorIndex := 49, attributes := #[] }] 48 2 #[] #[{ accessFlags := 18, nameIndex := 11, descriptorIndex := 12, attributes := #[] }, { accessFlags := 18, nameIndex := 15, descriptorIndex := 16, attributes := #[] }, { accessFlags := 18, nameIndex := 19, descriptorIndex := 16, attributes := #[] }])
  fields := #[{ name := "leader", type := .int, accessFlags := 18, slot := 0, constantValue := 0 }, { name := "zxid", type := .long, accessFlags := 18, slot := 1, constantValue := 0 }, { name := "epoch", type := .long, accessFlags := 18, slot := 2, constantValue := 0 }]
  methods := #[k2m0, k2m1]
  instanceTypes := #[.int, .long, .long]
  staticTypes := #[]
  resolved := Array.replicate 69 none
  statics := none }

def pool3 : Array CpInfo := pool [(1, .class_ 2), (0, u "java/io/Serializable"), (0, .class_ 4), (0, u "java/lang/Object")] 2

/-- java/io/Serializable -/
def k3 : Class := { plain "java/io/Serializable" (some 0) with
  accessFlags := 1537
  interfaces := #[]
  cf := some (fileOf pool3 1 #[] #[] 1537 3 #[] #[])
  fields := #[]
  methods := #[]
  instanceTypes := #[]
  staticTypes := #[]
  resolved := Array.replicate 7 none
  statics := none }

def pool4 : Array CpInfo := pool [(1, .methodref 2 3), (0, .class_ 4), (0, .nameAndType 5 6), (0, u "java/lang/Object"), (0, u "<init>"), (0, u "()V"), (1, .class_ 10), (1, u "java/lang/Number"), (2, .class_ 14), (0, u "java/io/Serializable"), (0, u "serialVersionUID"), (0, u "J")] 20

def k4c0 : Code := { maxStack := 1, maxLocals := 1, code := jdk_18_method_1_code, exceptionTable := #[], attributes := #[] }
def k4m0 : Method := { name := "<init>", desc := "()V", sig := { parameters := [], returnType := none }, accessFlags := 1, code := some k4c0 }
/-- java/lang/Number -/
def k4 : Class := { plain "java/lang/Number" (some 0) with
  accessFlags := 1057
  interfaces := #[3]
  cf := some (fileOf pool4 8 #[] #[{ accessFlags := 1, nameIndex := 5, descriptorIndex := 6, attributes := #[] }] 1057 2 #[13] #[{ accessFlags := 26, nameIndex := 15, descriptorIndex := 16, attributes := #[] }])
  fields := #[{ name := "serialVersionUID", type := .long, accessFlags := 26, slot := 0, constantValue := 0 }]
  methods := #[k4m0]
  instanceTypes := #[]
  staticTypes := #[.long]
  resolved := Array.replicate 37 none
  statics := none }

def pool5 : Array CpInfo := pool [(1, .class_ 2), (0, u "java/lang/Comparable"), (0, .class_ 4), (0, u "java/lang/Object")] 7

/-- java/lang/Comparable -/
def k5 : Class := { plain "java/lang/Comparable" (some 0) with
  accessFlags := 1537
  interfaces := #[]
  cf := some (fileOf pool5 1 #[] #[] 1537 3 #[] #[])
  fields := #[]
  methods := #[]
  instanceTypes := #[]
  staticTypes := #[]
  resolved := Array.replicate 12 none
  statics := none }

def pool6 : Array CpInfo := pool [(1, .class_ 2), (0, u "java/lang/constant/Constable"), (0, .class_ 4), (0, u "java/lang/Object")] 6

/-- java/lang/constant/Constable -/
def k6 : Class := { plain "java/lang/constant/Constable" (some 0) with
  accessFlags := 1537
  interfaces := #[]
  cf := some (fileOf pool6 1 #[] #[] 1537 3 #[] #[])
  fields := #[]
  methods := #[]
  instanceTypes := #[]
  staticTypes := #[]
  resolved := Array.replicate 11 none
  statics := none }

def pool7 : Array CpInfo := pool [(1, .class_ 2), (0, u "java/lang/constant/ConstantDesc"), (0, .class_ 4), (0, u "java/lang/Object")] 32

/-- java/lang/constant/ConstantDesc -/
def k7 : Class := { plain "java/lang/constant/ConstantDesc" (some 0) with
  accessFlags := 1537
  interfaces := #[]
  cf := some (fileOf pool7 1 #[] #[] 1537 3 #[] #[])
  fields := #[]
  methods := #[]
  instanceTypes := #[]
  staticTypes := #[]
  resolved := Array.replicate 37 none
  statics := none }

def pool8 : Array CpInfo := pool [(1, .class_ 2), (0, u "java/lang/Integer"), (16, u "digits"), (0, u "[C"), (46, u "<init>"), (17, u "DigitOnes"), (0, u "[B"), (2, u "DigitTens"), (10, .nameAndType 67 101), (0, u "()V"), (85, u "valueOf"), (0, u "(I)Ljava/lang/Integer;"), (0, .class_ 190), (0, u "java/lang/Integer$IntegerCache"), (0, .fieldref 189 192), (0, .nameAndType 193 194), (0, u "high"), (0, u "I"), (0, .fieldref 189 196), (0, .nameAndType 197 198), (0, u "cache"), (0, u "[Ljava/lang/Integer;"), (0, .methodref 1 200), (0, .nameAndType 67 201), (0, u "(I)V"), (0, .methodref 203 100), (0, .class_ 204), (0, u "java/lang/Number"), (0, .fieldref 1 206), (0, .nameAndType 207 194), (0, u "value"), (94, u "TYPE"), (0, u "Ljava/lang/Class;"), (0, .class_ 305), (0, u "java/lang/Comparable"), (0, .class_ 307), (0, u "java/lang/constant/Constable"), (0, .class_ 309), (0, u "java/lang/constant/ConstantDesc"), (0, u "MIN_VALUE"), (1, u "MAX_VALUE"), (3, u "SIZE"), (1, u "BYTES"), (1, u "serialVersionUID"), (0, u "J")] 131

def k8c0 : Code := { maxStack := 3, maxLocals := 1, code := jdk_33_method_22_code, exceptionTable := #[], attributes := #[] }
def k8m0 : Method := { name := "valueOf", desc := "(I)Ljava/lang/Integer;", sig := { parameters := [.int], returnType := some (.object "java/lang/Integer") }, accessFlags := 9, code := some k8c0 }
def k8c1 : Code := { maxStack := 2, maxLocals := 2, code := jdk_33_method_23_code, exceptionTable := #[], attributes := #[] }
def k8m1 : Method := { name := "<init>", desc := "(I)V", sig := { parameters := [.int], returnType := none }, accessFlags := 1, code := some k8c1 }
/-- java/lang/Integer -/
def k8 : Class := { plain "java/lang/Integer" (some 4) with
  accessFlags := 49
  interfaces := #[5, 6, 7]
  cf := some (fileOf pool8 1 #[.nestMembers #[189]] #[{ accessFlags := 9, nameIndex := 187, descriptorIndex := 188, attributes := #[] }, { accessFlags := 1, nameIndex := 67, descriptorIndex := 201, attributes := #[] }] 49 203 #[304, 306, 308] #[{ accessFlags := 25, nameIndex := 310, descriptorIndex := 194, attributes := #[] }, { accessFlags := 25, nameIndex := 312, descriptorIndex := 194, attributes := #[] }, { accessFlags := 25, nameIndex := 302, descriptorIndex := 303, attributes := #[] }, { accessFlags := 24, nameIndex := 19, descriptorIndex := 20, attributes := #[] }, { accessFlags := 24, nameIndex := 89, descriptorIndex := 86, attributes := #[] }, { accessFlags := 24, nameIndex := 85, descriptorIndex := 86, attributes := #[] }, { accessFlags := 18, nameIndex := 207, descriptorIndex := 194, attributes := #[] }, { accessFlags := 25, nameIndex := 316, descriptorIndex := 194, attributes := #[] }, { accessFlags := 25, nameIndex := 318, descriptorIndex := 194, attributes := #[] }, { accessFlags := 26, nameIndex := 320, descriptorIndex := 321, attributes := #[] }])
  fields := #[{ name := "MIN_VALUE", type := .int, accessFlags := 25, slot := 0, constantValue := 0 }, { name := "MAX_VALUE", type := .int, accessFlags := 25, slot := 1, constantValue := 0 }, { name := "TYPE", type := (.object "java/lang/Class"), accessFlags := 25, slot := 2, constantValue := 0 }, { name := "digits", type := (.array .char), accessFlags := 24, slot := 3, constantValue := 0 }, { name := "DigitTens", type := (.array .byte), accessFlags := 24, slot := 4, constantValue := 0 }, { name := "DigitOnes", type := (.array .byte), accessFlags := 24, slot := 5, constantValue := 0 }, { name := "value", type := .int, accessFlags := 18, slot := 0, constantValue := 0 }, { name := "SIZE", type := .int, accessFlags := 25, slot := 6, constantValue := 0 }, { name := "BYTES", type := .int, accessFlags := 25, slot := 7, constantValue := 0 }, { name := "serialVersionUID", type := .long, accessFlags := 26, slot := 8, constantValue := 0 }]
  methods := #[k8m0, k8m1]
  instanceTypes := #[.int]
  staticTypes := #[.int, .int, (.object "java/lang/Class"), (.array .char), (.array .byte), (.array .byte), .int, .int, .long]
  resolved := Array.replicate 453 none
  statics := none }

def pool9 : Array CpInfo := pool [(2, .class_ 4), (1, u "java/lang/Object"), (0, u "<init>"), (0, u "()V"), (0, .class_ 8), (0, u "java/lang/Integer"), (7, .class_ 18), (1, u "java/lang/Integer$IntegerCache"), (0, u "$assertionsDisabled"), (0, u "Z"), (26, u "high"), (0, u "I"), (8, u "archivedCache"), (0, u "[Ljava/lang/Integer;"), (12, u "cache"), (0, u "low")] 27

def k9m0 : Method := { name := "<init>", desc := "()V", sig := { parameters := [], returnType := none }, accessFlags := 2, code := none }
/-- java/lang/Integer$IntegerCache -/
def k9 : Class := { plain "java/lang/Integer$IntegerCache" (some 0) with
  accessFlags := 48
  interfaces := #[]
  cf := some (fileOf pool9 16 #[.nestHost 7] #[{ accessFlags := 2, nameIndex := 5, descriptorIndex := 6, attributes := #[] }] 48 2 #[] #[{ accessFlags := 24, nameIndex := 72, descriptorIndex := 48, attributes := #[] }, { accessFlags := 24, nameIndex := 47, descriptorIndex := 48, attributes := #[] }, { accessFlags := 24, nameIndex := 71, descriptorIndex := 58, attributes := #[] }, { accessFlags := 8, nameIndex := 57, descriptorIndex := 58, attributes := #[] }, { accessFlags := 4120, nameIndex := 19, descriptorIndex := 20, attributes := #[] }])
  fields := #[{ name := "low", type := .int, accessFlags := 24, slot := 0, constantValue := 0 }, { name := "high", type := .int, accessFlags := 24, slot := 1, constantValue := 0 }, { name := "cache", type := (.array (.object "java/lang/Integer")), accessFlags := 24, slot := 2, constantValue := 0 }, { name := "archivedCache", type := (.array (.object "java/lang/Integer")), accessFlags := 8, slot := 3, constantValue := 0 }, { name := "$assertionsDisabled", type := .boolean, accessFlags := 4120, slot := 4, constantValue := 0 }]
  methods := #[k9m0]
  instanceTypes := #[]
  staticTypes := #[.int, .int, (.array (.object "java/lang/Integer")), (.array (.object "java/lang/Integer")), .boolean]
  resolved := Array.replicate 100 none
  statics := some 0 }

def pool10 : Array CpInfo := pool [(1, u "java/lang/Cloneable"), (0, .class_ 1), (0, u "java/lang/Object"), (0, .class_ 3)] 3

/-- java/lang/Cloneable -/
def k10 : Class := { plain "java/lang/Cloneable" (some 0) with
  accessFlags := 1537
  interfaces := #[]
  cf := some (fileOf pool10 2 #[] #[] 1537 4 #[] #[])
  fields := #[]
  methods := #[]
  instanceTypes := #[]
  staticTypes := #[]
  resolved := Array.replicate 8 none
  statics := none }

/-- the primitive byte -/
def k11 : Class := { plain "byte" none with kind := .primitive 'B', accessFlags := 0x411 }
/-- [B -/
def k12 : Class := { plain "[B" (some 0) with kind := .array 11 .byte, interfaces := #[10, 3], accessFlags := 1041 }

/-- the primitive int -/
def k13 : Class := { plain "int" none with kind := .primitive 'I', accessFlags := 0x411 }
/-- [I -/
def k14 : Class := { plain "[I" (some 0) with kind := .array 13 .int, interfaces := #[10, 3], accessFlags := 1041 }

/-- [Ljava/lang/Integer; -/
def k15 : Class := { plain "[Ljava/lang/Integer;" (some 0) with kind := .array 8 (.object "java/lang/Integer"), interfaces := #[10, 3], accessFlags := 1041 }

def heap : Heap := #[{ cls := 9, slots := #[.int 0, .int 127, .ref 1, .null, .int 0], vm := .statics 9 },
  { cls := 15, slots := #[.ref 2, .ref 3, .ref 4, .ref 5, .ref 6, .ref 7, .ref 8, .ref 9, .ref 10, .ref 11, .ref 12, .ref 13, .ref 14, .ref 15, .ref 16, .ref 17, .ref 18, .ref 19, .ref 20, .ref 21, .ref 22, .ref 23, .ref 24, .ref 25, .ref 26, .ref 27, .ref 28, .ref 29, .ref 30, .ref 31, .ref 32, .ref 33, .ref 34, .ref 35, .ref 36, .ref 37, .ref 38, .ref 39, .ref 40, .ref 41, .ref 42, .ref 43, .ref 44, .ref 45, .ref 46, .ref 47, .ref 48, .ref 49, .ref 50, .ref 51, .ref 52, .ref 53, .ref 54, .ref 55, .ref 56, .ref 57, .ref 58, .ref 59, .ref 60, .ref 61, .ref 62, .ref 63, .ref 64, .ref 65, .ref 66, .ref 67, .ref 68, .ref 69, .ref 70, .ref 71, .ref 72, .ref 73, .ref 74, .ref 75, .ref 76, .ref 77, .ref 78, .ref 79, .ref 80, .ref 81, .ref 82, .ref 83, .ref 84, .ref 85, .ref 86, .ref 87, .ref 88, .ref 89, .ref 90, .ref 91, .ref 92, .ref 93, .ref 94, .ref 95, .ref 96, .ref 97, .ref 98, .ref 99, .ref 100, .ref 101, .ref 102, .ref 103, .ref 104, .ref 105, .ref 106, .ref 107, .ref 108, .ref 109, .ref 110, .ref 111, .ref 112, .ref 113, .ref 114, .ref 115, .ref 116, .ref 117, .ref 118, .ref 119, .ref 120, .ref 121, .ref 122, .ref 123, .ref 124, .ref 125, .ref 126, .ref 127, .ref 128, .ref 129, .ref 130, .ref 131, .ref 132, .ref 133, .ref 134, .ref 135, .ref 136, .ref 137, .ref 138, .ref 139, .ref 140, .ref 141, .ref 142, .ref 143, .ref 144, .ref 145, .ref 146, .ref 147, .ref 148, .ref 149, .ref 150, .ref 151, .ref 152, .ref 153, .ref 154, .ref 155, .ref 156, .ref 157, .ref 158, .ref 159, .ref 160, .ref 161, .ref 162, .ref 163, .ref 164, .ref 165, .ref 166, .ref 167, .ref 168, .ref 169, .ref 170, .ref 171, .ref 172, .ref 173, .ref 174, .ref 175, .ref 176, .ref 177, .ref 178, .ref 179, .ref 180, .ref 181, .ref 182, .ref 183, .ref 184, .ref 185, .ref 186, .ref 187, .ref 188, .ref 189, .ref 190, .ref 191, .ref 192, .ref 193, .ref 194, .ref 195, .ref 196, .ref 197, .ref 198, .ref 199, .ref 200, .ref 201, .ref 202, .ref 203, .ref 204, .ref 205, .ref 206, .ref 207, .ref 208, .ref 209, .ref 210, .ref 211, .ref 212, .ref 213, .ref 214, .ref 215, .ref 216, .ref 217, .ref 218, .ref 219, .ref 220, .ref 221, .ref 222, .ref 223, .ref 224, .ref 225, .ref 226, .ref 227, .ref 228, .ref 229, .ref 230, .ref 231, .ref 232, .ref 233, .ref 234, .ref 235, .ref 236, .ref 237, .ref 238, .ref 239, .ref 240, .ref 241, .ref 242, .ref 243, .ref 244, .ref 245, .ref 246, .ref 247, .ref 248, .ref 249, .ref 250, .ref 251, .ref 252, .ref 253, .ref 254, .ref 255, .ref 256, .ref 257], vm := .none },
  { cls := 8, slots := #[.int (-128)], vm := .none },
  { cls := 8, slots := #[.int (-127)], vm := .none },
  { cls := 8, slots := #[.int (-126)], vm := .none },
  { cls := 8, slots := #[.int (-125)], vm := .none },
  { cls := 8, slots := #[.int (-124)], vm := .none },
  { cls := 8, slots := #[.int (-123)], vm := .none },
  { cls := 8, slots := #[.int (-122)], vm := .none },
  { cls := 8, slots := #[.int (-121)], vm := .none },
  { cls := 8, slots := #[.int (-120)], vm := .none },
  { cls := 8, slots := #[.int (-119)], vm := .none },
  { cls := 8, slots := #[.int (-118)], vm := .none },
  { cls := 8, slots := #[.int (-117)], vm := .none },
  { cls := 8, slots := #[.int (-116)], vm := .none },
  { cls := 8, slots := #[.int (-115)], vm := .none },
  { cls := 8, slots := #[.int (-114)], vm := .none },
  { cls := 8, slots := #[.int (-113)], vm := .none },
  { cls := 8, slots := #[.int (-112)], vm := .none },
  { cls := 8, slots := #[.int (-111)], vm := .none },
  { cls := 8, slots := #[.int (-110)], vm := .none },
  { cls := 8, slots := #[.int (-109)], vm := .none },
  { cls := 8, slots := #[.int (-108)], vm := .none },
  { cls := 8, slots := #[.int (-107)], vm := .none },
  { cls := 8, slots := #[.int (-106)], vm := .none },
  { cls := 8, slots := #[.int (-105)], vm := .none },
  { cls := 8, slots := #[.int (-104)], vm := .none },
  { cls := 8, slots := #[.int (-103)], vm := .none },
  { cls := 8, slots := #[.int (-102)], vm := .none },
  { cls := 8, slots := #[.int (-101)], vm := .none },
  { cls := 8, slots := #[.int (-100)], vm := .none },
  { cls := 8, slots := #[.int (-99)], vm := .none },
  { cls := 8, slots := #[.int (-98)], vm := .none },
  { cls := 8, slots := #[.int (-97)], vm := .none },
  { cls := 8, slots := #[.int (-96)], vm := .none },
  { cls := 8, slots := #[.int (-95)], vm := .none },
  { cls := 8, slots := #[.int (-94)], vm := .none },
  { cls := 8, slots := #[.int (-93)], vm := .none },
  { cls := 8, slots := #[.int (-92)], vm := .none },
  { cls := 8, slots := #[.int (-91)], vm := .none },
  { cls := 8, slots := #[.int (-90)], vm := .none },
  { cls := 8, slots := #[.int (-89)], vm := .none },
  { cls := 8, slots := #[.int (-88)], vm := .none },
  { cls := 8, slots := #[.int (-87)], vm := .none },
  { cls := 8, slots := #[.int (-86)], vm := .none },
  { cls := 8, slots := #[.int (-85)], vm := .none },
  { cls := 8, slots := #[.int (-84)], vm := .none },
  { cls := 8, slots := #[.int (-83)], vm := .none },
  { cls := 8, slots := #[.int (-82)], vm := .none },
  { cls := 8, slots := #[.int (-81)], vm := .none },
  { cls := 8, slots := #[.int (-80)], vm := .none },
  { cls := 8, slots := #[.int (-79)], vm := .none },
  { cls := 8, slots := #[.int (-78)], vm := .none },
  { cls := 8, slots := #[.int (-77)], vm := .none },
  { cls := 8, slots := #[.int (-76)], vm := .none },
  { cls := 8, slots := #[.int (-75)], vm := .none },
  { cls := 8, slots := #[.int (-74)], vm := .none },
  { cls := 8, slots := #[.int (-73)], vm := .none },
  { cls := 8, slots := #[.int (-72)], vm := .none },
  { cls := 8, slots := #[.int (-71)], vm := .none },
  { cls := 8, slots := #[.int (-70)], vm := .none },
  { cls := 8, slots := #[.int (-69)], vm := .none },
  { cls := 8, slots := #[.int (-68)], vm := .none },
  { cls := 8, slots := #[.int (-67)], vm := .none },
  { cls := 8, slots := #[.int (-66)], vm := .none },
  { cls := 8, slots := #[.int (-65)], vm := .none },
  { cls := 8, slots := #[.int (-64)], vm := .none },
  { cls := 8, slots := #[.int (-63)], vm := .none },
  { cls := 8, slots := #[.int (-62)], vm := .none },
  { cls := 8, slots := #[.int (-61)], vm := .none },
  { cls := 8, slots := #[.int (-60)], vm := .none },
  { cls := 8, slots := #[.int (-59)], vm := .none },
  { cls := 8, slots := #[.int (-58)], vm := .none },
  { cls := 8, slots := #[.int (-57)], vm := .none },
  { cls := 8, slots := #[.int (-56)], vm := .none },
  { cls := 8, slots := #[.int (-55)], vm := .none },
  { cls := 8, slots := #[.int (-54)], vm := .none },
  { cls := 8, slots := #[.int (-53)], vm := .none },
  { cls := 8, slots := #[.int (-52)], vm := .none },
  { cls := 8, slots := #[.int (-51)], vm := .none },
  { cls := 8, slots := #[.int (-50)], vm := .none },
  { cls := 8, slots := #[.int (-49)], vm := .none },
  { cls := 8, slots := #[.int (-48)], vm := .none },
  { cls := 8, slots := #[.int (-47)], vm := .none },
  { cls := 8, slots := #[.int (-46)], vm := .none },
  { cls := 8, slots := #[.int (-45)], vm := .none },
  { cls := 8, slots := #[.int (-44)], vm := .none },
  { cls := 8, slots := #[.int (-43)], vm := .none },
  { cls := 8, slots := #[.int (-42)], vm := .none },
  { cls := 8, slots := #[.int (-41)], vm := .none },
  { cls := 8, slots := #[.int (-40)], vm := .none },
  { cls := 8, slots := #[.int (-39)], vm := .none },
  { cls := 8, slots := #[.int (-38)], vm := .none },
  { cls := 8, slots := #[.int (-37)], vm := .none },
  { cls := 8, slots := #[.int (-36)], vm := .none },
  { cls := 8, slots := #[.int (-35)], vm := .none },
  { cls := 8, slots := #[.int (-34)], vm := .none },
  { cls := 8, slots := #[.int (-33)], vm := .none },
  { cls := 8, slots := #[.int (-32)], vm := .none },
  { cls := 8, slots := #[.int (-31)], vm := .none },
  { cls := 8, slots := #[.int (-30)], vm := .none },
  { cls := 8, slots := #[.int (-29)], vm := .none },
  { cls := 8, slots := #[.int (-28)], vm := .none },
  { cls := 8, slots := #[.int (-27)], vm := .none },
  { cls := 8, slots := #[.int (-26)], vm := .none },
  { cls := 8, slots := #[.int (-25)], vm := .none },
  { cls := 8, slots := #[.int (-24)], vm := .none },
  { cls := 8, slots := #[.int (-23)], vm := .none },
  { cls := 8, slots := #[.int (-22)], vm := .none },
  { cls := 8, slots := #[.int (-21)], vm := .none },
  { cls := 8, slots := #[.int (-20)], vm := .none },
  { cls := 8, slots := #[.int (-19)], vm := .none },
  { cls := 8, slots := #[.int (-18)], vm := .none },
  { cls := 8, slots := #[.int (-17)], vm := .none },
  { cls := 8, slots := #[.int (-16)], vm := .none },
  { cls := 8, slots := #[.int (-15)], vm := .none },
  { cls := 8, slots := #[.int (-14)], vm := .none },
  { cls := 8, slots := #[.int (-13)], vm := .none },
  { cls := 8, slots := #[.int (-12)], vm := .none },
  { cls := 8, slots := #[.int (-11)], vm := .none },
  { cls := 8, slots := #[.int (-10)], vm := .none },
  { cls := 8, slots := #[.int (-9)], vm := .none },
  { cls := 8, slots := #[.int (-8)], vm := .none },
  { cls := 8, slots := #[.int (-7)], vm := .none },
  { cls := 8, slots := #[.int (-6)], vm := .none },
  { cls := 8, slots := #[.int (-5)], vm := .none },
  { cls := 8, slots := #[.int (-4)], vm := .none },
  { cls := 8, slots := #[.int (-3)], vm := .none },
  { cls := 8, slots := #[.int (-2)], vm := .none },
  { cls := 8, slots := #[.int (-1)], vm := .none },
  { cls := 8, slots := #[.int 0], vm := .none },
  { cls := 8, slots := #[.int 1], vm := .none },
  { cls := 8, slots := #[.int 2], vm := .none },
  { cls := 8, slots := #[.int 3], vm := .none },
  { cls := 8, slots := #[.int 4], vm := .none },
  { cls := 8, slots := #[.int 5], vm := .none },
  { cls := 8, slots := #[.int 6], vm := .none },
  { cls := 8, slots := #[.int 7], vm := .none },
  { cls := 8, slots := #[.int 8], vm := .none },
  { cls := 8, slots := #[.int 9], vm := .none },
  { cls := 8, slots := #[.int 10], vm := .none },
  { cls := 8, slots := #[.int 11], vm := .none },
  { cls := 8, slots := #[.int 12], vm := .none },
  { cls := 8, slots := #[.int 13], vm := .none },
  { cls := 8, slots := #[.int 14], vm := .none },
  { cls := 8, slots := #[.int 15], vm := .none },
  { cls := 8, slots := #[.int 16], vm := .none },
  { cls := 8, slots := #[.int 17], vm := .none },
  { cls := 8, slots := #[.int 18], vm := .none },
  { cls := 8, slots := #[.int 19], vm := .none },
  { cls := 8, slots := #[.int 20], vm := .none },
  { cls := 8, slots := #[.int 21], vm := .none },
  { cls := 8, slots := #[.int 22], vm := .none },
  { cls := 8, slots := #[.int 23], vm := .none },
  { cls := 8, slots := #[.int 24], vm := .none },
  { cls := 8, slots := #[.int 25], vm := .none },
  { cls := 8, slots := #[.int 26], vm := .none },
  { cls := 8, slots := #[.int 27], vm := .none },
  { cls := 8, slots := #[.int 28], vm := .none },
  { cls := 8, slots := #[.int 29], vm := .none },
  { cls := 8, slots := #[.int 30], vm := .none },
  { cls := 8, slots := #[.int 31], vm := .none },
  { cls := 8, slots := #[.int 32], vm := .none },
  { cls := 8, slots := #[.int 33], vm := .none },
  { cls := 8, slots := #[.int 34], vm := .none },
  { cls := 8, slots := #[.int 35], vm := .none },
  { cls := 8, slots := #[.int 36], vm := .none },
  { cls := 8, slots := #[.int 37], vm := .none },
  { cls := 8, slots := #[.int 38], vm := .none },
  { cls := 8, slots := #[.int 39], vm := .none },
  { cls := 8, slots := #[.int 40], vm := .none },
  { cls := 8, slots := #[.int 41], vm := .none },
  { cls := 8, slots := #[.int 42], vm := .none },
  { cls := 8, slots := #[.int 43], vm := .none },
  { cls := 8, slots := #[.int 44], vm := .none },
  { cls := 8, slots := #[.int 45], vm := .none },
  { cls := 8, slots := #[.int 46], vm := .none },
  { cls := 8, slots := #[.int 47], vm := .none },
  { cls := 8, slots := #[.int 48], vm := .none },
  { cls := 8, slots := #[.int 49], vm := .none },
  { cls := 8, slots := #[.int 50], vm := .none },
  { cls := 8, slots := #[.int 51], vm := .none },
  { cls := 8, slots := #[.int 52], vm := .none },
  { cls := 8, slots := #[.int 53], vm := .none },
  { cls := 8, slots := #[.int 54], vm := .none },
  { cls := 8, slots := #[.int 55], vm := .none },
  { cls := 8, slots := #[.int 56], vm := .none },
  { cls := 8, slots := #[.int 57], vm := .none },
  { cls := 8, slots := #[.int 58], vm := .none },
  { cls := 8, slots := #[.int 59], vm := .none },
  { cls := 8, slots := #[.int 60], vm := .none },
  { cls := 8, slots := #[.int 61], vm := .none },
  { cls := 8, slots := #[.int 62], vm := .none },
  { cls := 8, slots := #[.int 63], vm := .none },
  { cls := 8, slots := #[.int 64], vm := .none },
  { cls := 8, slots := #[.int 65], vm := .none },
  { cls := 8, slots := #[.int 66], vm := .none },
  { cls := 8, slots := #[.int 67], vm := .none },
  { cls := 8, slots := #[.int 68], vm := .none },
  { cls := 8, slots := #[.int 69], vm := .none },
  { cls := 8, slots := #[.int 70], vm := .none },
  { cls := 8, slots := #[.int 71], vm := .none },
  { cls := 8, slots := #[.int 72], vm := .none },
  { cls := 8, slots := #[.int 73], vm := .none },
  { cls := 8, slots := #[.int 74], vm := .none },
  { cls := 8, slots := #[.int 75], vm := .none },
  { cls := 8, slots := #[.int 76], vm := .none },
  { cls := 8, slots := #[.int 77], vm := .none },
  { cls := 8, slots := #[.int 78], vm := .none },
  { cls := 8, slots := #[.int 79], vm := .none },
  { cls := 8, slots := #[.int 80], vm := .none },
  { cls := 8, slots := #[.int 81], vm := .none },
  { cls := 8, slots := #[.int 82], vm := .none },
  { cls := 8, slots := #[.int 83], vm := .none },
  { cls := 8, slots := #[.int 84], vm := .none },
  { cls := 8, slots := #[.int 85], vm := .none },
  { cls := 8, slots := #[.int 86], vm := .none },
  { cls := 8, slots := #[.int 87], vm := .none },
  { cls := 8, slots := #[.int 88], vm := .none },
  { cls := 8, slots := #[.int 89], vm := .none },
  { cls := 8, slots := #[.int 90], vm := .none },
  { cls := 8, slots := #[.int 91], vm := .none },
  { cls := 8, slots := #[.int 92], vm := .none },
  { cls := 8, slots := #[.int 93], vm := .none },
  { cls := 8, slots := #[.int 94], vm := .none },
  { cls := 8, slots := #[.int 95], vm := .none },
  { cls := 8, slots := #[.int 96], vm := .none },
  { cls := 8, slots := #[.int 97], vm := .none },
  { cls := 8, slots := #[.int 98], vm := .none },
  { cls := 8, slots := #[.int 99], vm := .none },
  { cls := 8, slots := #[.int 100], vm := .none },
  { cls := 8, slots := #[.int 101], vm := .none },
  { cls := 8, slots := #[.int 102], vm := .none },
  { cls := 8, slots := #[.int 103], vm := .none },
  { cls := 8, slots := #[.int 104], vm := .none },
  { cls := 8, slots := #[.int 105], vm := .none },
  { cls := 8, slots := #[.int 106], vm := .none },
  { cls := 8, slots := #[.int 107], vm := .none },
  { cls := 8, slots := #[.int 108], vm := .none },
  { cls := 8, slots := #[.int 109], vm := .none },
  { cls := 8, slots := #[.int 110], vm := .none },
  { cls := 8, slots := #[.int 111], vm := .none },
  { cls := 8, slots := #[.int 112], vm := .none },
  { cls := 8, slots := #[.int 113], vm := .none },
  { cls := 8, slots := #[.int 114], vm := .none },
  { cls := 8, slots := #[.int 115], vm := .none },
  { cls := 8, slots := #[.int 116], vm := .none },
  { cls := 8, slots := #[.int 117], vm := .none },
  { cls := 8, slots := #[.int 118], vm := .none },
  { cls := 8, slots := #[.int 119], vm := .none },
  { cls := 8, slots := #[.int 120], vm := .none },
  { cls := 8, slots := #[.int 121], vm := .none },
  { cls := 8, slots := #[.int 122], vm := .none },
  { cls := 8, slots := #[.int 123], vm := .none },
  { cls := 8, slots := #[.int 124], vm := .none },
  { cls := 8, slots := #[.int 125], vm := .none },
  { cls := 8, slots := #[.int 126], vm := .none },
  { cls := 8, slots := #[.int 127], vm := .none }]
def classes : Array Class := #[k0, k1, k2, k3, k4, k5, k6, k7, k8, k9, k10, k11, k12, k13, k14, k15]
def interned : List (Array UInt16 × Addr) := []
def slotsUsed : Nat := 517
def theMethod : MethodId := ⟨1, 1⟩
def args0 : Array Value := #[.int 5, .long 6, .long 7, .int 8, .long 9, .long 5]
def aboutOver (below : List Frame) : State where
  vm := { classes := classes, interned := interned.toArray }
  heap := heap
  slotsUsed := slotsUsed
  threads := #[{ frames := .invoking theMethod args0 :: below }]
def below0 : List Frame := [.native { method := ⟨0, 0⟩, args := #[] }]
def about1 : State := aboutOver below0
def p0 : Program := .bare "" "" ""
def e0 : Env := launch0.env 0 0 0
theorem w_frames : about1.frames = Frame.invoking theMethod args0 :: below0 := rfl
set_option maxRecDepth 65536 in
theorem w_args : argsFit about1.vm theMethod args0 = true := by decide +kernel
set_option maxRecDepth 65536 in
theorem w_heap : heapFits about1 = true := by decide +kernel
set_option maxRecDepth 65536 in
theorem w_runnable : about1.curStatus? = some .runnable := by decide +kernel
set_option maxRecDepth 65536 in
theorem w_alone : about1.alone = true := by decide +kernel
set_option maxRecDepth 65536 in
theorem w_named : about1.methodNamed? x = some theMethod := by decide +kernel
set_option maxRecDepth 65536 in
theorem w_hears : about1.hears theMethod below0 = true := by decide +kernel
set_option maxRecDepth 65536 in
theorem w_ripe : about1.ripe theMethod args0 below0 = true := by decide +kernel
theorem w_running : about1.status = .running := rfl
set_option maxRecDepth 65536 in
theorem w_room : about1.hasRoom e0.platform room_1 = true :=
  launch0.hasRoom_least _ room_1 (by decide +kernel) (by decide +kernel) (by decide +kernel) (by decide +kernel) (by decide +kernel) (by decide +kernel)
theorem allAtoms_all (ts : List Jvm.Cond) (a : Array Jvm.Value) (st : Jvm.State) : (allAtoms ts).before a st = ts.all (fun c => c.before a st) := by
  induction ts with
  | nil => rfl
  | cons c t ih =>
    show (Jvm.Cond.and c (allAtoms t)).before a st = _
    rw [Jvm.Cond.before_and, ih, List.all_cons]
def words1 : List Jvm.Cond := Jvm.Cond.code x code maxLocals ret :: tables_1
/-- a 'code' word, met by the world's own term for the bytes: nothing is compared byte by byte -/
theorem code_word {y : MethodName} {bytes : ByteArray} {mx : Nat} {rt : Option FieldType} {a : Array Value} {s : State} {m : MethodId} {meth : Method} {c : Code} (h1 : s.methodNamed? y = some m) (h2 : s.vm.method? m = some meth) (h3 : meth.code = some c) (h4 : c.code = bytes)
    (h5 : (c.maxLocals == mx && c.exceptionTable.isEmpty && decide (c.maxStack ≤ mostOperands) && decide (meth.sig.returnType = rt) && !meth.locks && decide (parseMethodDescriptor y.desc = some meth.sig)) = true) : (Jvm.Cond.code y bytes mx rt).before a s = true := by
  simp only [Bool.and_eq_true, beq_iff_eq, Bool.not_eq_true', decide_eq_true_eq] at h5
  obtain ⟨⟨⟨⟨⟨g1, g2⟩, g3⟩, g4⟩, g5⟩, g6⟩ := h5
  simp [Cond.before, Cond.holds, Cond.value, h1, h2, h3, h4, g1, g2, g3, g4, g5, g6]
def isCode : Jvm.Cond → Bool
  | .code _ _ _ _ => true
  | _ => false
theorem all_split {L : List Jvm.Cond} {P : Jvm.Cond → Bool} (h1 : L.all (fun c => isCode c || P c) = true) (h2 : ∀ c ∈ L.filter isCode, P c = true) : L.all P = true := by
  refine List.all_eq_true.mpr fun c hc => ?_
  have h := List.all_eq_true.mp h1 c hc
  rcases Bool.eq_false_or_eq_true (isCode c) with hi | hi
  · exact h2 c (List.mem_filter.mpr ⟨hc, hi⟩)
  · simpa [hi] using h
set_option maxRecDepth 65536 in
theorem w_c0 : (Jvm.Cond.code x code maxLocals ret).before args0 about1 = true := code_word (m := ⟨1, 1⟩) (meth := k1m1) (c := k1c1) (by decide +kernel) rfl rfl rfl (by decide +kernel)
set_option maxRecDepth 65536 in
theorem w_c1 : (Jvm.Cond.code ({ cls := "com/example/tacit_quorum/tacitquorum/server/Vote", name := "<init>", desc := "(IJJ)V" } : Jvm.MethodName) prog_48_method_1_code (6 : Nat) (Option.none : Option Jvm.ClassFile.FieldType)).before args0 about1 = true := code_word (m := ⟨2, 0⟩) (meth := k2m0) (c := k2c0) (by decide +kernel) rfl rfl rfl (by decide +kernel)
set_option maxRecDepth 65536 in
theorem w_c2 : (Jvm.Cond.code ({ cls := "java/lang/Object", name := "<init>", desc := "()V" } : Jvm.MethodName) object_method_1_code (1 : Nat) (Option.none : Option Jvm.ClassFile.FieldType)).before args0 about1 = true := code_word (m := ⟨0, 0⟩) (meth := k0m0) (c := k0c0) (by decide +kernel) rfl rfl rfl (by decide +kernel)
set_option maxRecDepth 65536 in
theorem w_c3 : (Jvm.Cond.code ({ cls := "java/lang/Integer", name := "valueOf", desc := "(I)Ljava/lang/Integer;" } : Jvm.MethodName) jdk_33_method_22_code (1 : Nat) (Option.some (Jvm.ClassFile.FieldType.object "java/lang/Integer"))).before args0 about1 = true := code_word (m := ⟨8, 0⟩) (meth := k8m0) (c := k8c0) (by decide +kernel) rfl rfl rfl (by decide +kernel)
set_option maxRecDepth 65536 in
theorem w_c4 : (Jvm.Cond.code ({ cls := "com/example/tacit_quorum/tacitquorum/server/Vote", name := "equals", desc := "(Ljava/lang/Object;)Z" } : Jvm.MethodName) prog_48_method_7_code (3 : Nat) (Option.some Jvm.ClassFile.FieldType.boolean)).before args0 about1 = true := code_word (m := ⟨2, 1⟩) (meth := k2m1) (c := k2c1) (by decide +kernel) rfl rfl rfl (by decide +kernel)
set_option maxRecDepth 65536 in
theorem w_c5 : (Jvm.Cond.code ({ cls := "java/lang/Integer", name := "<init>", desc := "(I)V" } : Jvm.MethodName) jdk_33_method_23_code (2 : Nat) (Option.none : Option Jvm.ClassFile.FieldType)).before args0 about1 = true := code_word (m := ⟨8, 1⟩) (meth := k8m1) (c := k8c1) (by decide +kernel) rfl rfl rfl (by decide +kernel)
set_option maxRecDepth 65536 in
theorem w_c6 : (Jvm.Cond.code ({ cls := "java/lang/Number", name := "<init>", desc := "()V" } : Jvm.MethodName) jdk_18_method_1_code (1 : Nat) (Option.none : Option Jvm.ClassFile.FieldType)).before args0 about1 = true := code_word (m := ⟨4, 0⟩) (meth := k4m0) (c := k4c0) (by decide +kernel) rfl rfl rfl (by decide +kernel)
def codes1 : List Jvm.Cond := [Jvm.Cond.code x code maxLocals ret, Jvm.Cond.code ({ cls := "com/example/tacit_quorum/tacitquorum/server/Vote", name := "<init>", desc := "(IJJ)V" } : Jvm.MethodName) prog_48_method_1_code (6 : Nat) (Option.none : Option Jvm.ClassFile.FieldType), Jvm.Cond.code ({ cls := "java/lang/Object", name := "<init>", desc := "()V" } : Jvm.MethodName) object_method_1_code (1 : Nat) (Option.none : Option Jvm.ClassFile.FieldType), Jvm.Cond.code ({ cls := "java/lang/Integer", name := "valueOf", desc := "(I)Ljava/lang/Integer;" } : Jvm.MethodName) jdk_33_method_22_code (1 : Nat) (Option.some (Jvm.ClassFile.FieldType.object "java/lang/Integer")), Jvm.Cond.code ({ cls := "com/example/tacit_quorum/tacitquorum/server/Vote", name := "equals", desc := "(Ljava/lang/Object;)Z" } : Jvm.MethodName) prog_48_method_7_code (3 : Nat) (Option.some Jvm.ClassFile.FieldType.boolean), Jvm.Cond.code ({ cls := "java/lang/Integer", name := "<init>", desc := "(I)V" } : Jvm.MethodName) jdk_33_method_23_code (2 : Nat) (Option.none : Option Jvm.ClassFile.FieldType), Jvm.Cond.code ({ cls := "java/lang/Number", name := "<init>", desc := "()V" } : Jvm.MethodName) jdk_18_method_1_code (1 : Nat) (Option.none : Option Jvm.ClassFile.FieldType)]
set_option maxRecDepth 65536 in
theorem codes_eq : words1.filter isCode = codes1 := rfl
theorem w_codes : ∀ c ∈ words1.filter isCode, c.before args0 about1 = true := by
  rw [codes_eq]
  intro c hc
  simp only [codes1, List.mem_cons, List.not_mem_nil, or_false] at hc
  rcases hc with rfl | rfl | rfl | rfl | rfl | rfl | rfl
  · exact w_c0
  · exact w_c1
  · exact w_c2
  · exact w_c3
  · exact w_c4
  · exact w_c5
  · exact w_c6
set_option maxRecDepth 65536 in
theorem w_t1 : (words1.take 24).all (fun c => isCode c || c.before args0 about1) = true := by decide +kernel
set_option maxRecDepth 65536 in
theorem w_t2 : (words1.drop 24).all (fun c => isCode c || c.before args0 about1) = true := by decide +kernel
theorem w_tables : (allAtoms (Jvm.Cond.code x code maxLocals ret :: tables_1)).before args0 about1 = true := by
  rw [allAtoms_all]
  show words1.all (fun c => c.before args0 about1) = true
  refine all_split ?_ w_codes
  rw [← List.take_append_drop 24 words1, List.all_append, w_t1, w_t2]
  rfl
set_option maxRecDepth 65536 in
theorem w_rest : rest_1_c.before args0 about1 = true := by decide +kernel
set_option maxRecDepth 65536 in
theorem w_case : (Jvm.Cond.and given_1 narrow_1).before args0 about1 = true := by decide +kernel
theorem w_applies : (headSpec (Jvm.Cond.code x code maxLocals ret :: tables_1) room_1).applies x e0.platform about1 = true :=
  (Spec.applies_iff w_frames).mpr ⟨w_running, w_runnable, w_alone, w_named, w_hears, w_ripe, w_room, w_tables⟩
theorem atStart : AtStart classFile x code maxLocals ret World_1 tables_1 room_1 Calls_1 rest_1 Pre_1 launch0 p0 e0 about1 theMethod args0 below0 :=
  ⟨lists_1, trivial, launch0.admits_env _ _ _, launch0.least_env, fairChoices_fair.cas, fairChoices_fair.clock, w_frames, w_args, w_heap, w_applies, trivial, w_rest, w_case⟩
end start1
theorem witness_1 : WitnessClaimed_1 := ⟨start1.p0, start1.e0, start1.about1, start1.theMethod, start1.args0, start1.below0, start1.atStart⟩
end Jvm.Pilot.@@N@@
