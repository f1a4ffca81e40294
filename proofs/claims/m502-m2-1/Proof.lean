import JvmDerived
import JvmDerived.Pilot.@@N@@Statement
import JvmDerived.Pilot.@@N@@Code
set_option linter.unusedVariables false
set_option linter.unusedSimpArgs false
namespace Jvm.RoadKit
open Sem ClassFile Op Lib Jvm.Stand Jvm.Free Jvm.LawKit
section New
variable {p : Program} {l : Launch} {e : Env} {R : Room} {s : State} {m : MethodId} {args : Array Value} {below : List Frame} {meth : Method} {c : Code} {T : State} {locs : List Loc} {cells slots : Nat}
theorem retI (X : Stand p l e R s m args below meth c T locs cells slots) (hx : p.tables.exec = Jvm.exec) {pc : Nat} {Ls : Array Slot} {z : Int32} {rest : List Value} (hret : meth.sig.returnType = some .int) (hd : decode c.code pc = .ok (.ireturn, 1)) {fs : List Frame}
    (hl : ∀ (f : JFrame) (acts : List Action), f.method = m → f.locked = none → f.entered = [] → (doReturn e (T.setTop f) acts (some (.int z))).1 = T.setFrames fs) : Steps p.tables e below (T.setTop (mkF m pc Ls (.int z :: rest))) (T.setFrames fs) := by
  have hm' : T.vm.method? m = some meth := X.method'
  have hn : narrow .int (.int z) = .int z := rfl
  show Steps p.tables e below (T.setTop { method := m, pc := pc, locals := Ls, stack := _ :: rest, locked := none }) _
  jvm_step X.here [X.here.top, hx, hd, hm', hret, hn]
  first | (intro acts; rw [hl _ acts rfl rfl rfl]) | rw [hl _ _ rfl rfl rfl]
  exact Steps.refl _
end New
end Jvm.RoadKit
namespace Jvm.Pilot.@@N@@
open Jvm Jvm.ClassFile Sem Op Lib Jvm.Free Jvm.Stand Jvm.LawKit Jvm.RoadKit Bundle Jvm.Pilot.@@N@@.Jvm.D
/-! the goal of a walk, gone through forwards: from the state A the run comes to an end that answers R -/
def own_G (tb : Tables) (e : Env) (below : List Frame) (R : State → Outcome → Prop) (A : State) : Prop := ∃ t o, Steps tb e below A t ∧ t.status = .running ∧ Ended t below o ∧ R t o
theorem own_in {tb : Tables} {e : Env} {below : List Frame} {R : State → Outcome → Prop} {A : State} (h : own_G tb e below R A) : ∃ t o, Steps tb e below A t ∧ t.status = .running ∧ Ended t below o ∧ R t o := h
theorem own_pre {tb : Tables} {e : Env} {below : List Frame} {R : State → Outcome → Prop} {A B : State} (k : ∀ t, Steps tb e below B t → Steps tb e below A t) (h : own_G tb e below R B) : own_G tb e below R A := by
  obtain ⟨t, o, h1, h2⟩ := h
  exact ⟨t, o, k t h1, h2⟩
/-! a part of a walk: from A the run comes to some state that answers P -/
def own_J (tb : Tables) (e : Env) (below : List Frame) (P : State → Prop) (A : State) : Prop := ∃ B, P B ∧ ∀ t, Steps tb e below B t → Steps tb e below A t
theorem own_preJ {tb : Tables} {e : Env} {below : List Frame} {P : State → Prop} {A B : State} (k : ∀ t, Steps tb e below B t → Steps tb e below A t) (h : own_J tb e below P B) : own_J tb e below P A := by
  obtain ⟨C, h1, h2⟩ := h
  exact ⟨C, h1, fun t q => k t (h2 t q)⟩
theorem own_more {p : Program} {l : Launch} {e : Env} {R : Room} {s : State} {m : MethodId} {args : Array Value} {below : List Frame} {meth : Method} {c : Code} {T : State} {locs : List Loc} {cells slots cells' slots' : Nat} (X : Stand p l e R s m args below meth c T locs cells slots) (h : cells ≤ cells') (h' : slots ≤ slots') : Stand p l e R s m args below meth c T locs cells' slots' :=
  { X with same := X.same.mono h h' }
theorem ow {d : Jvm.Cond} (i : Nat) (h : tables_1[i]? = some d) : d ∈ tables_1 := List.mem_of_getElem? h
theorem d1_0 : decode prog_48_method_1_code 0 = .ok (.aload_n 0, 1) := by decide +kernel
theorem d1_1 : decode prog_48_method_1_code 1 = .ok (.invokespecial 1, 3) := by decide +kernel
theorem d1_4 : decode prog_48_method_1_code 4 = .ok (.aload_n 0, 1) := by decide +kernel
theorem d1_5 : decode prog_48_method_1_code 5 = .ok (.iload_n 1, 1) := by decide +kernel
theorem d1_6 : decode prog_48_method_1_code 6 = .ok (.putfield 7, 3) := by decide +kernel
theorem d1_9 : decode prog_48_method_1_code 9 = .ok (.aload_n 0, 1) := by decide +kernel
theorem d1_10 : decode prog_48_method_1_code 10 = .ok (.lload_n 2, 1) := by decide +kernel
theorem d1_11 : decode prog_48_method_1_code 11 = .ok (.putfield 13, 3) := by decide +kernel
theorem d1_14 : decode prog_48_method_1_code 14 = .ok (.aload_n 0, 1) := by decide +kernel
theorem d1_15 : decode prog_48_method_1_code 15 = .ok (.lload 4, 2) := by decide +kernel
theorem d1_17 : decode prog_48_method_1_code 17 = .ok (.putfield 17, 3) := by decide +kernel
theorem d1_20 : decode prog_48_method_1_code 20 = .ok (.return_, 1) := by decide +kernel
theorem pn_1 : plainName "com/example/tacit_quorum/tacitquorum/server/Vote" = true := by first | (simp [plainName, overriddenIn]; done) | decide +kernel
theorem ef_1 (m : MethodId) (x0 : Addr) (x1 : Int32) (x2 : Int64) (x3 : Int64) : entryFrame m #[(.ref x0), (.int x1), (.long x2), (.long x3)] 6 = mkF m 0 #[.val (.ref x0), .val (.int x1), .val (.long x2), .second, .val (.long x3), .second] [] := by first | (simp [entryFrame, mkF, argsToLocals, Value.category]; done) | rfl
def Q1 (Z : State) (a1 : Addr) (p2 : Int32) (q3 : Int64) (q4 : Int64) (u_leader_a1 : Value) (u_zxid_a1 : Value) (u_epoch_a1 : Value) (h0 : Heap) (n0 : Nat) (v : Option Value) (h : Heap) (L : List Loc) : Prop := v = none ∧ Fr n0 L ∧ Keep h0 h [a1] ∧ Exa Z h a1 "com/example/tacit_quorum/tacitquorum/server/Vote" ∧ Fld Z h a1 "com/example/tacit_quorum/tacitquorum/server/Vote" "leader" "I" (.int p2) ∧ Fld Z h a1 "com/example/tacit_quorum/tacitquorum/server/Vote" "zxid" "J" (.long q3) ∧ Fld Z h a1 "com/example/tacit_quorum/tacitquorum/server/Vote" "epoch" "J" (.long q4)
set_option maxRecDepth 65536 in
set_option maxHeartbeats 40000000 in
theorem rm1 (l : Launch) (Z : State) (a0 : Array Value) (hw : ∀ d ∈ tables_1, d.before a0 Z = true) (ws : List Jvm.Cond) (a1 : Addr) (p2 : Int32) (q3 : Int64) (q4 : Int64) (u_leader_a1 : Value) (u_zxid_a1 : Value) (u_epoch_a1 : Value) (h0 : Heap) (n0 : Nat) (Z0 : n0 ≤ h0.size) (E_a1 : Exa Z h0 a1 "com/example/tacit_quorum/tacitquorum/server/Vote") (F_leader_a1 : Fld Z h0 a1 "com/example/tacit_quorum/tacitquorum/server/Vote" "leader" "I" u_leader_a1) (g_a1 : n0 ≤ a1) (F_zxid_a1 : Fld Z h0 a1 "com/example/tacit_quorum/tacitquorum/server/Vote" "zxid" "J" u_zxid_a1) (F_epoch_a1 : Fld Z h0 a1 "com/example/tacit_quorum/tacitquorum/server/Vote" "epoch" "J" u_epoch_a1) :
    MetFree l (⟨"com/example/tacit_quorum/tacitquorum/server/Vote", "<init>", "(IJJ)V"⟩ : MethodName) (head1 (Jvm.Cond.code (⟨"com/example/tacit_quorum/tacitquorum/server/Vote", "<init>", "(IJJ)V"⟩ : MethodName) prog_48_method_1_code 6 none :: ws) ({ frames := 1, cells := 0, slots := 0, locals := 12 } : Room)) (fun a U => a = #[(.ref a1), (.int p2), (.long q3), (.long q4)] ∧ Z.Warmed39 U.vm ∧ U.heap = h0) (fun _ _ _ _ _ => True) (fun _ U o U' => ∃ v L, o = .returned v ∧ Q1 Z a1 p2 q3 q4 u_leader_a1 u_zxid_a1 u_epoch_a1 h0 n0 v U'.heap L ∧ FrameEnd U o U' L ({ frames := 1, cells := 0, slots := 0, locals := 12 } : Room).cells ({ frames := 1, cells := 0, slots := 0, locals := 12 } : Room).slots) := by
  refine MetFree.of_bodySF (plainFor_of_name pn_1) hisR ?_
  intro p e s m args below meth c s₁ Bd hml0 hP hK
  obtain ⟨rfl, hZ, hh⟩ := hP
  have hx := Bd.exec
  have hby := Bd.bytes
  have hml : c.maxLocals = 6 := hml0
  have hown : s.vm.findClass "com/example/tacit_quorum/tacitquorum/server/Vote" = some m.cls := findClass_of_methodNamed Bd.named
  have hnm := (name_of_methodNamed Bd.named Bd.method).1
  have X0 : Stand p l e ({ frames := 1, cells := 0, slots := 0, locals := 12 } : Room) s m #[(.ref a1), (.int p2), (.long q3), (.long q4)] below meth c s₁ [] 0 0 := Stand.of_body Bd
  have e0 : s₁.heap = h0 := by rw [← hh, Bd.state]; rfl
  have N0 := Fr.nil n0
  apply own_in
  refine own_pre (B := s₁.setTop (mkF m 0 #[.val (.ref a1), .val (.int p2), .val (.long q3), .second, .val (.long q4), .second] [])) (fun t k => castTop (ef_1 m a1 p2 q3 q4) k) ?_
  refine own_pre (B := s₁.setTop (mkF m 1 #[.val (.ref a1), .val (.int p2), .val (.long q3), .second, .val (.long q4), .second] [(.ref a1)])) (fun t k => XS.aloadN X0.here hx rfl (hb hby d1_0) rfl rfl k) ?_
  obtain ⟨T5, X5, e5, st5⟩ := initO X0 hx hZ hown (hw _ (ow 6 rfl)) (hw _ (ow 7 rfl)) (hw _ (ow 8 rfl)) e0 (g := (mkF m 1 #[.val (.ref a1), .val (.int p2), .val (.long q3), .second, .val (.long q4), .second] [(.ref a1)])) rfl (by rw [hml]; rfl) rfl (hb hby d1_1) (by decide) (W := 0) (by show 2 * 0 + _ ≤ _; exact Nat.le_of_eq rfl) (by decide)
  refine own_pre (B := T5.setTop (mkF m 4 #[.val (.ref a1), .val (.int p2), .val (.long q3), .second, .val (.long q4), .second] [])) (fun t k => st5 t k) ?_
  refine own_pre (B := T5.setTop (mkF m 5 #[.val (.ref a1), .val (.int p2), .val (.long q3), .second, .val (.long q4), .second] [(.ref a1)])) (fun t k => XS.aloadN X5.here hx rfl (hb hby d1_4) rfl rfl k) ?_
  refine own_pre (B := T5.setTop (mkF m 6 #[.val (.ref a1), .val (.int p2), .val (.long q3), .second, .val (.long q4), .second] [(.int p2), (.ref a1)])) (fun t k => XS.iloadN X5.here hx rfl (hb hby d1_5) rfl k) ?_
  have K6 : Keep h0 h0 [a1] := (Keep.refl h0 [a1])
  obtain ⟨T7, h7, X7, e7, W7, st7⟩ := putF X5 hx hZ hown (host := "") (Or.inl (hw _ (ow 9 rfl))) Via.refl e5 F_leader_a1 E_a1 (Or.inr ⟨(hw _ (ow 10 rfl)), rfl, hnm⟩) (hw _ (ow 1 rfl)) (ty := .int) (by decide) rfl rfl (g := (mkF m 6 #[.val (.ref a1), .val (.int p2), .val (.long q3), .second, .val (.long q4), .second] [(.int p2), (.ref a1)])) rfl rfl (hb hby d1_6)
  have Fw7 := Fld.same W7 F_leader_a1
  have N7 := Fr.snoc X7 N0 g_a1
  refine own_pre (B := T7.setTop (mkF m 9 #[.val (.ref a1), .val (.int p2), .val (.long q3), .second, .val (.long q4), .second] [])) (fun t k => st7 t k) ?_
  refine own_pre (B := T7.setTop (mkF m 10 #[.val (.ref a1), .val (.int p2), .val (.long q3), .second, .val (.long q4), .second] [(.ref a1)])) (fun t k => XS.aloadN X7.here hx rfl (hb hby d1_9) rfl rfl k) ?_
  refine own_pre (B := T7.setTop (mkF m 11 #[.val (.ref a1), .val (.int p2), .val (.long q3), .second, .val (.long q4), .second] [(.long q3), (.ref a1)])) (fun t k => XS.lloadN X7.here hx rfl (hb hby d1_10) rfl k) ?_
  have c8 := (Exa.wr W7 E_a1)
  have c9 := (Fld.other W7 F_zxid_a1 (Or.inr (slot_ne (Or.inr (hw _ (ow 12 rfl))) (Or.inr (hw _ (ow 10 rfl))) (by decide) (t := .long) (t' := .int) (by decide) (by decide))))
  have K10 : Keep h0 h7 [a1] := (Keep.wr K6 W7 (Or.inl (List.mem_of_getElem? (i := 0) rfl)))
  obtain ⟨T11, h11, X11, e11, W11, st11⟩ := putF X7 hx hZ hown (host := "") (Or.inl (hw _ (ow 11 rfl))) Via.refl e7 c9 c8 (Or.inr ⟨(hw _ (ow 12 rfl)), rfl, hnm⟩) (hw _ (ow 1 rfl)) (ty := .long) (by decide) rfl rfl (g := (mkF m 11 #[.val (.ref a1), .val (.int p2), .val (.long q3), .second, .val (.long q4), .second] [(.long q3), (.ref a1)])) rfl rfl (hb hby d1_11)
  have Fw11 := Fld.same W11 c9
  have N11 := Fr.snoc X11 N7 g_a1
  refine own_pre (B := T11.setTop (mkF m 14 #[.val (.ref a1), .val (.int p2), .val (.long q3), .second, .val (.long q4), .second] [])) (fun t k => st11 t k) ?_
  refine own_pre (B := T11.setTop (mkF m 15 #[.val (.ref a1), .val (.int p2), .val (.long q3), .second, .val (.long q4), .second] [(.ref a1)])) (fun t k => XS.aloadN X11.here hx rfl (hb hby d1_14) rfl rfl k) ?_
  refine own_pre (B := T11.setTop (mkF m 17 #[.val (.ref a1), .val (.int p2), .val (.long q3), .second, .val (.long q4), .second] [(.long q4), (.ref a1)])) (fun t k => XS.lload X11.here hx rfl (hb hby d1_15) rfl k) ?_
  have c12 := (Exa.wr W11 c8)
  have c13 := (Fld.other W11 (Fld.other W7 F_epoch_a1 (Or.inr (slot_ne (Or.inr (hw _ (ow 14 rfl))) (Or.inr (hw _ (ow 10 rfl))) (by decide) (t := .long) (t' := .int) (by decide) (by decide)))) (Or.inr (slot_ne (Or.inr (hw _ (ow 14 rfl))) (Or.inr (hw _ (ow 12 rfl))) (by decide) (t := .long) (t' := .long) (by decide) (by decide))))
  have K14 : Keep h0 h11 [a1] := (Keep.wr K10 W11 (Or.inl (List.mem_of_getElem? (i := 0) rfl)))
  obtain ⟨T15, h15, X15, e15, W15, st15⟩ := putF X11 hx hZ hown (host := "") (Or.inl (hw _ (ow 13 rfl))) Via.refl e11 c13 c12 (Or.inr ⟨(hw _ (ow 14 rfl)), rfl, hnm⟩) (hw _ (ow 1 rfl)) (ty := .long) (by decide) rfl rfl (g := (mkF m 17 #[.val (.ref a1), .val (.int p2), .val (.long q3), .second, .val (.long q4), .second] [(.long q4), (.ref a1)])) rfl rfl (hb hby d1_17)
  have Fw15 := Fld.same W15 c13
  have N15 := Fr.snoc X15 N11 g_a1
  refine own_pre (B := T15.setTop (mkF m 20 #[.val (.ref a1), .val (.int p2), .val (.long q3), .second, .val (.long q4), .second] [])) (fun t k => st15 t k) ?_
  have K16 : Keep h0 h15 [a1] := (Keep.wr K14 W15 (Or.inl (List.mem_of_getElem? (i := 0) rfl)))
  have c17 := (Exa.wr W15 c12)
  have c18 := (Fld.other W15 (Fld.other W11 Fw7 (Or.inr (slot_ne (Or.inr (hw _ (ow 10 rfl))) (Or.inr (hw _ (ow 12 rfl))) (by decide) (t := .int) (t' := .long) (by decide) (by decide)))) (Or.inr (slot_ne (Or.inr (hw _ (ow 10 rfl))) (Or.inr (hw _ (ow 14 rfl))) (by decide) (t := .int) (t' := .long) (by decide) (by decide))))
  have c19 := (Fld.other W15 Fw11 (Or.inr (slot_ne (Or.inr (hw _ (ow 12 rfl))) (Or.inr (hw _ (ow 14 rfl))) (by decide) (t := .long) (t' := .long) (by decide) (by decide))))
  obtain ⟨fsr20, hrr20, hrunr20, hendedr20, hWr20, hsamer20⟩ := X15.leave (v := none) (fun _ => rfl)
  refine ⟨_, _, (X15.returnOut hx Bd.returns (hb hby d1_20) hrr20), hrunr20, hendedr20, _, _, rfl, ?_, ⟨_, rfl⟩, hWr20, hsamer20.mono (by decide) (by decide)⟩
  show Q1 Z a1 p2 q3 q4 u_leader_a1 u_zxid_a1 u_epoch_a1 h0 n0 _ T15.heap _
  rw [e15]
  exact ⟨rfl, N15, K16, c17, c18, c19, Fw15⟩
theorem d3_0 : decode prog_48_method_6_code 0 = .ok (.aload_n 0, 1) := by decide +kernel
theorem d3_1 : decode prog_48_method_6_code 1 = .ok (.getfield 17, 3) := by decide +kernel
theorem d3_4 : decode prog_48_method_6_code 4 = .ok (.aload_n 1, 1) := by decide +kernel
theorem d3_5 : decode prog_48_method_6_code 5 = .ok (.getfield 17, 3) := by decide +kernel
theorem d3_8 : decode prog_48_method_6_code 8 = .ok (.lcmp, 1) := by decide +kernel
theorem d3_9 : decode prog_48_method_6_code 9 = .ok (.ifCond .eq 23, 3) := by decide +kernel
theorem d3_12 : decode prog_48_method_6_code 12 = .ok (.aload_n 0, 1) := by decide +kernel
theorem d3_13 : decode prog_48_method_6_code 13 = .ok (.getfield 17, 3) := by decide +kernel
theorem d3_16 : decode prog_48_method_6_code 16 = .ok (.aload_n 1, 1) := by decide +kernel
theorem d3_17 : decode prog_48_method_6_code 17 = .ok (.getfield 17, 3) := by decide +kernel
theorem d3_20 : decode prog_48_method_6_code 20 = .ok (.lcmp, 1) := by decide +kernel
theorem d3_21 : decode prog_48_method_6_code 21 = .ok (.ifCond .le 7, 3) := by decide +kernel
theorem d3_24 : decode prog_48_method_6_code 24 = .ok (.iconst 1, 1) := by decide +kernel
theorem d3_25 : decode prog_48_method_6_code 25 = .ok (.goto 24, 3) := by decide +kernel
theorem d3_28 : decode prog_48_method_6_code 28 = .ok (.iconst 0, 1) := by decide +kernel
theorem d3_29 : decode prog_48_method_6_code 29 = .ok (.goto 20, 3) := by decide +kernel
theorem d3_32 : decode prog_48_method_6_code 32 = .ok (.aload_n 0, 1) := by decide +kernel
theorem d3_33 : decode prog_48_method_6_code 33 = .ok (.getfield 13, 3) := by decide +kernel
theorem d3_36 : decode prog_48_method_6_code 36 = .ok (.aload_n 1, 1) := by decide +kernel
theorem d3_37 : decode prog_48_method_6_code 37 = .ok (.getfield 13, 3) := by decide +kernel
theorem d3_40 : decode prog_48_method_6_code 40 = .ok (.lcmp, 1) := by decide +kernel
theorem d3_41 : decode prog_48_method_6_code 41 = .ok (.ifCond .le 7, 3) := by decide +kernel
theorem d3_44 : decode prog_48_method_6_code 44 = .ok (.iconst 1, 1) := by decide +kernel
theorem d3_45 : decode prog_48_method_6_code 45 = .ok (.goto 4, 3) := by decide +kernel
theorem d3_48 : decode prog_48_method_6_code 48 = .ok (.iconst 0, 1) := by decide +kernel
theorem d3_49 : decode prog_48_method_6_code 49 = .ok (.ireturn, 1) := by decide +kernel
theorem pn_3 : plainName "com/example/tacit_quorum/tacitquorum/server/Vote" = true := by first | (simp [plainName, overriddenIn]; done) | decide +kernel
theorem ef_3 (m : MethodId) (x0 : Addr) (x1 : Addr) : entryFrame m #[(.ref x0), (.ref x1)] 2 = mkF m 0 #[.val (.ref x0), .val (.ref x1)] [] := by first | (simp [entryFrame, mkF, argsToLocals, Value.category]; done) | rfl
def own_f3 (w_epoch_a1 : Int64) (w_epoch_a2 : Int64) (w_zxid_a1 : Int64) (w_zxid_a2 : Int64) : Int32 := (if w_epoch_a1 = w_epoch_a2 then (if w_zxid_a2 < w_zxid_a1 then (1 : Int32) else (0 : Int32)) else (if w_epoch_a2 < w_epoch_a1 then (1 : Int32) else (0 : Int32)))
def Q3 (Z : State) (a1 : Addr) (a2 : Addr) (w_epoch_a1 : Int64) (w_epoch_a2 : Int64) (w_zxid_a1 : Int64) (w_zxid_a2 : Int64) (h0 : Heap) (n0 : Nat) (v : Option Value) (h : Heap) (L : List Loc) : Prop := v = some (.int (own_f3 w_epoch_a1 w_epoch_a2 w_zxid_a1 w_zxid_a2)) ∧ Fr n0 L ∧ h = h0
set_option maxRecDepth 65536 in
set_option maxHeartbeats 40000000 in
theorem rm3 (l : Launch) (Z : State) (a0 : Array Value) (hw : ∀ d ∈ tables_1, d.before a0 Z = true) (ws : List Jvm.Cond) (a1 : Addr) (a2 : Addr) (w_epoch_a1 : Int64) (w_epoch_a2 : Int64) (w_zxid_a1 : Int64) (w_zxid_a2 : Int64) (h0 : Heap) (n0 : Nat) (Z0 : n0 ≤ h0.size) (F_epoch_a1 : Fld Z h0 a1 "com/example/tacit_quorum/tacitquorum/server/Vote" "epoch" "J" (.long w_epoch_a1)) (F_epoch_a2 : Fld Z h0 a2 "com/example/tacit_quorum/tacitquorum/server/Vote" "epoch" "J" (.long w_epoch_a2)) (F_zxid_a1 : Fld Z h0 a1 "com/example/tacit_quorum/tacitquorum/server/Vote" "zxid" "J" (.long w_zxid_a1)) (F_zxid_a2 : Fld Z h0 a2 "com/example/tacit_quorum/tacitquorum/server/Vote" "zxid" "J" (.long w_zxid_a2)) :
    MetFree l (⟨"com/example/tacit_quorum/tacitquorum/server/Vote", "isAheadOf", "(Lcom/example/tacit_quorum/tacitquorum/server/Vote;)Z"⟩ : MethodName) (head1 (Jvm.Cond.code (⟨"com/example/tacit_quorum/tacitquorum/server/Vote", "isAheadOf", "(Lcom/example/tacit_quorum/tacitquorum/server/Vote;)Z"⟩ : MethodName) prog_48_method_6_code 2 (some .boolean) :: ws) ({ frames := 0, cells := 0, slots := 0, locals := 0 } : Room)) (fun a U => a = #[(.ref a1), (.ref a2)] ∧ Z.Warmed39 U.vm ∧ U.heap = h0) (fun _ _ _ _ _ => True) (fun _ U o U' => ∃ v L, o = .returned v ∧ Q3 Z a1 a2 w_epoch_a1 w_epoch_a2 w_zxid_a1 w_zxid_a2 h0 n0 v U'.heap L ∧ FrameEnd U o U' L ({ frames := 0, cells := 0, slots := 0, locals := 0 } : Room).cells ({ frames := 0, cells := 0, slots := 0, locals := 0 } : Room).slots) := by
  refine MetFree.of_bodySF (plainFor_of_name pn_3) hisR ?_
  intro p e s m args below meth c s₁ Bd hml0 hP hK
  obtain ⟨rfl, hZ, hh⟩ := hP
  have hx := Bd.exec
  have hby := Bd.bytes
  have hml : c.maxLocals = 2 := hml0
  have hown : s.vm.findClass "com/example/tacit_quorum/tacitquorum/server/Vote" = some m.cls := findClass_of_methodNamed Bd.named
  have hnm := (name_of_methodNamed Bd.named Bd.method).1
  have X0 : Stand p l e ({ frames := 0, cells := 0, slots := 0, locals := 0 } : Room) s m #[(.ref a1), (.ref a2)] below meth c s₁ [] 0 0 := Stand.of_body Bd
  have e0 : s₁.heap = h0 := by rw [← hh, Bd.state]; rfl
  have N0 := Fr.nil n0
  apply own_in
  refine own_pre (B := s₁.setTop (mkF m 0 #[.val (.ref a1), .val (.ref a2)] [])) (fun t k => castTop (ef_3 m a1 a2) k) ?_
  refine own_pre (B := s₁.setTop (mkF m 1 #[.val (.ref a1), .val (.ref a2)] [(.ref a1)])) (fun t k => XS.aloadN X0.here hx rfl (hb hby d3_0) rfl rfl k) ?_
  obtain ⟨T3, X3, e3, st3⟩ := getF X0 hx hZ hown (host := "") (Or.inl (hw _ (ow 13 rfl))) Via.refl e0 F_epoch_a1 (g := (mkF m 1 #[.val (.ref a1), .val (.ref a2)] [(.ref a1)])) rfl rfl (hb hby d3_1)
  refine own_pre (B := T3.setTop (mkF m 4 #[.val (.ref a1), .val (.ref a2)] [(.long w_epoch_a1)])) (fun t k => st3 t k) ?_
  refine own_pre (B := T3.setTop (mkF m 5 #[.val (.ref a1), .val (.ref a2)] [(.ref a2), (.long w_epoch_a1)])) (fun t k => XS.aloadN X3.here hx rfl (hb hby d3_4) rfl rfl k) ?_
  obtain ⟨T4, X4, e4, st4⟩ := getF X3 hx hZ hown (host := "") (Or.inl (hw _ (ow 13 rfl))) Via.refl e3 F_epoch_a2 (g := (mkF m 5 #[.val (.ref a1), .val (.ref a2)] [(.ref a2), (.long w_epoch_a1)])) rfl rfl (hb hby d3_5)
  refine own_pre (B := T4.setTop (mkF m 8 #[.val (.ref a1), .val (.ref a2)] [(.long w_epoch_a2), (.long w_epoch_a1)])) (fun t k => st4 t k) ?_
  refine own_pre (B := T4.setTop (mkF m 9 #[.val (.ref a1), .val (.ref a2)] [(.int (lcmpW w_epoch_a1 w_epoch_a2))])) (fun t k => XS.lcmp X4.here hx rfl (hb hby d3_8) rfl k) ?_
  by_cases hc9_5 : w_epoch_a1 = w_epoch_a2
  · refine own_pre (B := T4.setTop (mkF m 32 #[.val (.ref a1), .val (.ref a2)] [])) (fun t k => XS.ifYes X4.here hx rfl (pc0 := 9) (pc' := 32) rfl (hb hby d3_9) rfl ((if0 _ _).trans (teq ((lw_eq w_epoch_a1 w_epoch_a2).mpr hc9_5)).1) (by decide) (by decide) k) ?_
    refine own_pre (B := T4.setTop (mkF m 33 #[.val (.ref a1), .val (.ref a2)] [(.ref a1)])) (fun t k => XS.aloadN X4.here hx rfl (hb hby d3_32) rfl rfl k) ?_
    obtain ⟨T6, X6, e6, st6⟩ := getF X4 hx hZ hown (host := "") (Or.inl (hw _ (ow 11 rfl))) Via.refl e4 F_zxid_a1 (g := (mkF m 33 #[.val (.ref a1), .val (.ref a2)] [(.ref a1)])) rfl rfl (hb hby d3_33)
    refine own_pre (B := T6.setTop (mkF m 36 #[.val (.ref a1), .val (.ref a2)] [(.long w_zxid_a1)])) (fun t k => st6 t k) ?_
    refine own_pre (B := T6.setTop (mkF m 37 #[.val (.ref a1), .val (.ref a2)] [(.ref a2), (.long w_zxid_a1)])) (fun t k => XS.aloadN X6.here hx rfl (hb hby d3_36) rfl rfl k) ?_
    obtain ⟨T7, X7, e7, st7⟩ := getF X6 hx hZ hown (host := "") (Or.inl (hw _ (ow 11 rfl))) Via.refl e6 F_zxid_a2 (g := (mkF m 37 #[.val (.ref a1), .val (.ref a2)] [(.ref a2), (.long w_zxid_a1)])) rfl rfl (hb hby d3_37)
    refine own_pre (B := T7.setTop (mkF m 40 #[.val (.ref a1), .val (.ref a2)] [(.long w_zxid_a2), (.long w_zxid_a1)])) (fun t k => st7 t k) ?_
    refine own_pre (B := T7.setTop (mkF m 41 #[.val (.ref a1), .val (.ref a2)] [(.int (lcmpW w_zxid_a1 w_zxid_a2))])) (fun t k => XS.lcmp X7.here hx rfl (hb hby d3_40) rfl k) ?_
    by_cases hc41_8 : w_zxid_a2 < w_zxid_a1
    · refine own_pre (B := T7.setTop (mkF m 44 #[.val (.ref a1), .val (.ref a2)] [])) (fun t k => XS.ifNo X7.here hx rfl (hb hby d3_41) rfl ((if0 _ _).trans (tlt ((lw_gt w_zxid_a1 w_zxid_a2).mpr hc41_8)).2.2.2) k) ?_
      refine own_pre (B := T7.setTop (mkF m 45 #[.val (.ref a1), .val (.ref a2)] [(.int (1 : Int32))])) (fun t k => XS.iconst X7.here hx rfl (hb hby d3_44) k) ?_
      refine own_pre (B := T7.setTop (mkF m 49 #[.val (.ref a1), .val (.ref a2)] [(.int (1 : Int32))])) (fun t k => XS.goto X7.here hx rfl (pc0 := 45) (pc' := 49) rfl (hb hby d3_45) (by decide) (by decide) k) ?_
      obtain ⟨fsr9, hrr9, hrunr9, hendedr9, hWr9, hsamer9⟩ := X7.leave (v := some (.int (1 : Int32))) (fun h => by rw [Bd.returns] at h; cases h)
      refine ⟨_, _, (retN X7 hx (t := .boolean) Bd.returns (by simp) (hb hby d3_49) hrr9), hrunr9, hendedr9, _, _, rfl, ?_, ⟨_, rfl⟩, hWr9, hsamer9.mono (by decide) (by decide)⟩
      show Q3 Z a1 a2 w_epoch_a1 w_epoch_a2 w_zxid_a1 w_zxid_a2 h0 n0 _ T7.heap _
      rw [e7]
      exact ⟨(by unfold own_f3; rw [if_pos hc9_5, if_pos hc41_8]), N0, rfl⟩
    · refine own_pre (B := T7.setTop (mkF m 48 #[.val (.ref a1), .val (.ref a2)] [])) (fun t k => XS.ifYes X7.here hx rfl (pc0 := 41) (pc' := 48) rfl (hb hby d3_41) rfl ((if0 _ _).trans (flt (mt (lw_gt w_zxid_a1 w_zxid_a2).mp hc41_8)).2.2.2) (by decide) (by decide) k) ?_
      refine own_pre (B := T7.setTop (mkF m 49 #[.val (.ref a1), .val (.ref a2)] [(.int (0 : Int32))])) (fun t k => XS.iconst X7.here hx rfl (hb hby d3_48) k) ?_
      obtain ⟨fsr10, hrr10, hrunr10, hendedr10, hWr10, hsamer10⟩ := X7.leave (v := some (.int (0 : Int32))) (fun h => by rw [Bd.returns] at h; cases h)
      refine ⟨_, _, (retN X7 hx (t := .boolean) Bd.returns (by simp) (hb hby d3_49) hrr10), hrunr10, hendedr10, _, _, rfl, ?_, ⟨_, rfl⟩, hWr10, hsamer10.mono (by decide) (by decide)⟩
      show Q3 Z a1 a2 w_epoch_a1 w_epoch_a2 w_zxid_a1 w_zxid_a2 h0 n0 _ T7.heap _
      rw [e7]
      exact ⟨(by unfold own_f3; rw [if_pos hc9_5, if_neg hc41_8]), N0, rfl⟩
  · refine own_pre (B := T4.setTop (mkF m 12 #[.val (.ref a1), .val (.ref a2)] [])) (fun t k => XS.ifNo X4.here hx rfl (hb hby d3_9) rfl ((if0 _ _).trans (feq (mt (lw_eq w_epoch_a1 w_epoch_a2).mp hc9_5)).1) k) ?_
    refine own_pre (B := T4.setTop (mkF m 13 #[.val (.ref a1), .val (.ref a2)] [(.ref a1)])) (fun t k => XS.aloadN X4.here hx rfl (hb hby d3_12) rfl rfl k) ?_
    obtain ⟨T11, X11, e11, st11⟩ := getF X4 hx hZ hown (host := "") (Or.inl (hw _ (ow 13 rfl))) Via.refl e4 F_epoch_a1 (g := (mkF m 13 #[.val (.ref a1), .val (.ref a2)] [(.ref a1)])) rfl rfl (hb hby d3_13)
    refine own_pre (B := T11.setTop (mkF m 16 #[.val (.ref a1), .val (.ref a2)] [(.long w_epoch_a1)])) (fun t k => st11 t k) ?_
    refine own_pre (B := T11.setTop (mkF m 17 #[.val (.ref a1), .val (.ref a2)] [(.ref a2), (.long w_epoch_a1)])) (fun t k => XS.aloadN X11.here hx rfl (hb hby d3_16) rfl rfl k) ?_
    obtain ⟨T12, X12, e12, st12⟩ := getF X11 hx hZ hown (host := "") (Or.inl (hw _ (ow 13 rfl))) Via.refl e11 F_epoch_a2 (g := (mkF m 17 #[.val (.ref a1), .val (.ref a2)] [(.ref a2), (.long w_epoch_a1)])) rfl rfl (hb hby d3_17)
    refine own_pre (B := T12.setTop (mkF m 20 #[.val (.ref a1), .val (.ref a2)] [(.long w_epoch_a2), (.long w_epoch_a1)])) (fun t k => st12 t k) ?_
    refine own_pre (B := T12.setTop (mkF m 21 #[.val (.ref a1), .val (.ref a2)] [(.int (lcmpW w_epoch_a1 w_epoch_a2))])) (fun t k => XS.lcmp X12.here hx rfl (hb hby d3_20) rfl k) ?_
    by_cases hc21_13 : w_epoch_a2 < w_epoch_a1
    · refine own_pre (B := T12.setTop (mkF m 24 #[.val (.ref a1), .val (.ref a2)] [])) (fun t k => XS.ifNo X12.here hx rfl (hb hby d3_21) rfl ((if0 _ _).trans (tlt ((lw_gt w_epoch_a1 w_epoch_a2).mpr hc21_13)).2.2.2) k) ?_
      refine own_pre (B := T12.setTop (mkF m 25 #[.val (.ref a1), .val (.ref a2)] [(.int (1 : Int32))])) (fun t k => XS.iconst X12.here hx rfl (hb hby d3_24) k) ?_
      refine own_pre (B := T12.setTop (mkF m 49 #[.val (.ref a1), .val (.ref a2)] [(.int (1 : Int32))])) (fun t k => XS.goto X12.here hx rfl (pc0 := 25) (pc' := 49) rfl (hb hby d3_25) (by decide) (by decide) k) ?_
      obtain ⟨fsr14, hrr14, hrunr14, hendedr14, hWr14, hsamer14⟩ := X12.leave (v := some (.int (1 : Int32))) (fun h => by rw [Bd.returns] at h; cases h)
      refine ⟨_, _, (retN X12 hx (t := .boolean) Bd.returns (by simp) (hb hby d3_49) hrr14), hrunr14, hendedr14, _, _, rfl, ?_, ⟨_, rfl⟩, hWr14, hsamer14.mono (by decide) (by decide)⟩
      show Q3 Z a1 a2 w_epoch_a1 w_epoch_a2 w_zxid_a1 w_zxid_a2 h0 n0 _ T12.heap _
      rw [e12]
      exact ⟨(by unfold own_f3; rw [if_neg hc9_5, if_pos hc21_13]), N0, rfl⟩
    · refine own_pre (B := T12.setTop (mkF m 28 #[.val (.ref a1), .val (.ref a2)] [])) (fun t k => XS.ifYes X12.here hx rfl (pc0 := 21) (pc' := 28) rfl (hb hby d3_21) rfl ((if0 _ _).trans (flt (mt (lw_gt w_epoch_a1 w_epoch_a2).mp hc21_13)).2.2.2) (by decide) (by decide) k) ?_
      refine own_pre (B := T12.setTop (mkF m 29 #[.val (.ref a1), .val (.ref a2)] [(.int (0 : Int32))])) (fun t k => XS.iconst X12.here hx rfl (hb hby d3_28) k) ?_
      refine own_pre (B := T12.setTop (mkF m 49 #[.val (.ref a1), .val (.ref a2)] [(.int (0 : Int32))])) (fun t k => XS.goto X12.here hx rfl (pc0 := 29) (pc' := 49) rfl (hb hby d3_29) (by decide) (by decide) k) ?_
      obtain ⟨fsr15, hrr15, hrunr15, hendedr15, hWr15, hsamer15⟩ := X12.leave (v := some (.int (0 : Int32))) (fun h => by rw [Bd.returns] at h; cases h)
      refine ⟨_, _, (retN X12 hx (t := .boolean) Bd.returns (by simp) (hb hby d3_49) hrr15), hrunr15, hendedr15, _, _, rfl, ?_, ⟨_, rfl⟩, hWr15, hsamer15.mono (by decide) (by decide)⟩
      show Q3 Z a1 a2 w_epoch_a1 w_epoch_a2 w_zxid_a1 w_zxid_a2 h0 n0 _ T12.heap _
      rw [e12]
      exact ⟨(by unfold own_f3; rw [if_neg hc9_5, if_neg hc21_13]), N0, rfl⟩
theorem d4_0 : decode method_2_code 0 = .ok (.lload_n 0, 1) := by decide +kernel
theorem d4_1 : decode method_2_code 1 = .ok (.lload 4, 2) := by decide +kernel
theorem d4_3 : decode method_2_code 3 = .ok (.lcmp, 1) := by decide +kernel
theorem d4_4 : decode method_2_code 4 = .ok (.ifCond .le 5, 3) := by decide +kernel
theorem d4_7 : decode method_2_code 7 = .ok (.iconst 1, 1) := by decide +kernel
theorem d4_8 : decode method_2_code 8 = .ok (.ireturn, 1) := by decide +kernel
theorem d4_9 : decode method_2_code 9 = .ok (.lload_n 0, 1) := by decide +kernel
theorem d4_10 : decode method_2_code 10 = .ok (.lload 4, 2) := by decide +kernel
theorem d4_12 : decode method_2_code 12 = .ok (.lcmp, 1) := by decide +kernel
theorem d4_13 : decode method_2_code 13 = .ok (.ifCond .ge 5, 3) := by decide +kernel
theorem d4_16 : decode method_2_code 16 = .ok (.iconst 0, 1) := by decide +kernel
theorem d4_17 : decode method_2_code 17 = .ok (.ireturn, 1) := by decide +kernel
theorem d4_18 : decode method_2_code 18 = .ok (.lload_n 2, 1) := by decide +kernel
theorem d4_19 : decode method_2_code 19 = .ok (.lload 6, 2) := by decide +kernel
theorem d4_21 : decode method_2_code 21 = .ok (.lcmp, 1) := by decide +kernel
theorem d4_22 : decode method_2_code 22 = .ok (.ifCond .le 7, 3) := by decide +kernel
theorem d4_25 : decode method_2_code 25 = .ok (.iconst 1, 1) := by decide +kernel
theorem d4_26 : decode method_2_code 26 = .ok (.goto 4, 3) := by decide +kernel
theorem d4_29 : decode method_2_code 29 = .ok (.iconst 0, 1) := by decide +kernel
theorem d4_30 : decode method_2_code 30 = .ok (.ireturn, 1) := by decide +kernel
theorem pn_4 : plainName "com/example/tacit_quorum/tacitquorum/server/VoteIsAheadOfPinLaw" = true := by first | (simp [plainName, overriddenIn]; done) | decide +kernel
theorem ef_4 (m : MethodId) (x0 : Int64) (x1 : Int64) (x2 : Int64) (x3 : Int64) : entryFrame m #[(.long x0), (.long x1), (.long x2), (.long x3)] 8 = mkF m 0 #[.val (.long x0), .second, .val (.long x1), .second, .val (.long x2), .second, .val (.long x3), .second] [] := by first | (simp [entryFrame, mkF, argsToLocals, Value.category]; done) | rfl
def own_f4 (q1 : Int64) (q2 : Int64) (q3 : Int64) (q4 : Int64) : Int32 := (if q3 < q1 then (1 : Int32) else (if q1 < q3 then (0 : Int32) else (if q4 < q2 then (1 : Int32) else (0 : Int32))))
def Q4 (Z : State) (q1 : Int64) (q2 : Int64) (q3 : Int64) (q4 : Int64) (h0 : Heap) (n0 : Nat) (v : Option Value) (h : Heap) (L : List Loc) : Prop := v = some (.int (own_f4 q1 q2 q3 q4)) ∧ Fr n0 L ∧ h = h0
set_option maxRecDepth 65536 in
set_option maxHeartbeats 40000000 in
theorem rm4 (l : Launch) (Z : State) (a0 : Array Value) (hw : ∀ d ∈ tables_1, d.before a0 Z = true) (ws : List Jvm.Cond) (q1 : Int64) (q2 : Int64) (q3 : Int64) (q4 : Int64) (h0 : Heap) (n0 : Nat) (Z0 : n0 ≤ h0.size) :
    MetFree l (⟨"com/example/tacit_quorum/tacitquorum/server/VoteIsAheadOfPinLaw", "expected", "(JJJJ)Z"⟩ : MethodName) (head1 (Jvm.Cond.code (⟨"com/example/tacit_quorum/tacitquorum/server/VoteIsAheadOfPinLaw", "expected", "(JJJJ)Z"⟩ : MethodName) method_2_code 8 (some .boolean) :: ws) ({ frames := 0, cells := 0, slots := 0, locals := 0 } : Room)) (fun a U => a = #[(.long q1), (.long q2), (.long q3), (.long q4)] ∧ Z.Warmed39 U.vm ∧ U.heap = h0) (fun _ _ _ _ _ => True) (fun _ U o U' => ∃ v L, o = .returned v ∧ Q4 Z q1 q2 q3 q4 h0 n0 v U'.heap L ∧ FrameEnd U o U' L ({ frames := 0, cells := 0, slots := 0, locals := 0 } : Room).cells ({ frames := 0, cells := 0, slots := 0, locals := 0 } : Room).slots) := by
  refine MetFree.of_bodySF (plainFor_of_name pn_4) hisR ?_
  intro p e s m args below meth c s₁ Bd hml0 hP hK
  obtain ⟨rfl, hZ, hh⟩ := hP
  have hx := Bd.exec
  have hby := Bd.bytes
  have hml : c.maxLocals = 8 := hml0
  have hown : s.vm.findClass "com/example/tacit_quorum/tacitquorum/server/VoteIsAheadOfPinLaw" = some m.cls := findClass_of_methodNamed Bd.named
  have hnm := (name_of_methodNamed Bd.named Bd.method).1
  have X0 : Stand p l e ({ frames := 0, cells := 0, slots := 0, locals := 0 } : Room) s m #[(.long q1), (.long q2), (.long q3), (.long q4)] below meth c s₁ [] 0 0 := Stand.of_body Bd
  have e0 : s₁.heap = h0 := by rw [← hh, Bd.state]; rfl
  have N0 := Fr.nil n0
  apply own_in
  refine own_pre (B := s₁.setTop (mkF m 0 #[.val (.long q1), .second, .val (.long q2), .second, .val (.long q3), .second, .val (.long q4), .second] [])) (fun t k => castTop (ef_4 m q1 q2 q3 q4) k) ?_
  refine own_pre (B := s₁.setTop (mkF m 1 #[.val (.long q1), .second, .val (.long q2), .second, .val (.long q3), .second, .val (.long q4), .second] [(.long q1)])) (fun t k => XS.lloadN X0.here hx rfl (hb hby d4_0) rfl k) ?_
  refine own_pre (B := s₁.setTop (mkF m 3 #[.val (.long q1), .second, .val (.long q2), .second, .val (.long q3), .second, .val (.long q4), .second] [(.long q3), (.long q1)])) (fun t k => XS.lload X0.here hx rfl (hb hby d4_1) rfl k) ?_
  refine own_pre (B := s₁.setTop (mkF m 4 #[.val (.long q1), .second, .val (.long q2), .second, .val (.long q3), .second, .val (.long q4), .second] [(.int (lcmpW q1 q3))])) (fun t k => XS.lcmp X0.here hx rfl (hb hby d4_3) rfl k) ?_
  by_cases hc4_5 : q3 < q1
  · refine own_pre (B := s₁.setTop (mkF m 7 #[.val (.long q1), .second, .val (.long q2), .second, .val (.long q3), .second, .val (.long q4), .second] [])) (fun t k => XS.ifNo X0.here hx rfl (hb hby d4_4) rfl ((if0 _ _).trans (tlt ((lw_gt q1 q3).mpr hc4_5)).2.2.2) k) ?_
    refine own_pre (B := s₁.setTop (mkF m 8 #[.val (.long q1), .second, .val (.long q2), .second, .val (.long q3), .second, .val (.long q4), .second] [(.int (1 : Int32))])) (fun t k => XS.iconst X0.here hx rfl (hb hby d4_7) k) ?_
    obtain ⟨fsr6, hrr6, hrunr6, hendedr6, hWr6, hsamer6⟩ := X0.leave (v := some (.int (1 : Int32))) (fun h => by rw [Bd.returns] at h; cases h)
    refine ⟨_, _, (retN X0 hx (t := .boolean) Bd.returns (by simp) (hb hby d4_8) hrr6), hrunr6, hendedr6, _, _, rfl, ?_, ⟨_, rfl⟩, hWr6, hsamer6.mono (by decide) (by decide)⟩
    show Q4 Z q1 q2 q3 q4 h0 n0 _ s₁.heap _
    rw [e0]
    exact ⟨(by unfold own_f4; rw [if_pos hc4_5]), N0, rfl⟩
  · refine own_pre (B := s₁.setTop (mkF m 9 #[.val (.long q1), .second, .val (.long q2), .second, .val (.long q3), .second, .val (.long q4), .second] [])) (fun t k => XS.ifYes X0.here hx rfl (pc0 := 4) (pc' := 9) rfl (hb hby d4_4) rfl ((if0 _ _).trans (flt (mt (lw_gt q1 q3).mp hc4_5)).2.2.2) (by decide) (by decide) k) ?_
    refine own_pre (B := s₁.setTop (mkF m 10 #[.val (.long q1), .second, .val (.long q2), .second, .val (.long q3), .second, .val (.long q4), .second] [(.long q1)])) (fun t k => XS.lloadN X0.here hx rfl (hb hby d4_9) rfl k) ?_
    refine own_pre (B := s₁.setTop (mkF m 12 #[.val (.long q1), .second, .val (.long q2), .second, .val (.long q3), .second, .val (.long q4), .second] [(.long q3), (.long q1)])) (fun t k => XS.lload X0.here hx rfl (hb hby d4_10) rfl k) ?_
    refine own_pre (B := s₁.setTop (mkF m 13 #[.val (.long q1), .second, .val (.long q2), .second, .val (.long q3), .second, .val (.long q4), .second] [(.int (lcmpW q1 q3))])) (fun t k => XS.lcmp X0.here hx rfl (hb hby d4_12) rfl k) ?_
    by_cases hc13_7 : q1 < q3
    · refine own_pre (B := s₁.setTop (mkF m 16 #[.val (.long q1), .second, .val (.long q2), .second, .val (.long q3), .second, .val (.long q4), .second] [])) (fun t k => XS.ifNo X0.here hx rfl (hb hby d4_13) rfl ((if0 _ _).trans (tlt ((lw_lt q1 q3).mpr hc13_7)).2.1) k) ?_
      refine own_pre (B := s₁.setTop (mkF m 17 #[.val (.long q1), .second, .val (.long q2), .second, .val (.long q3), .second, .val (.long q4), .second] [(.int (0 : Int32))])) (fun t k => XS.iconst X0.here hx rfl (hb hby d4_16) k) ?_
      obtain ⟨fsr8, hrr8, hrunr8, hendedr8, hWr8, hsamer8⟩ := X0.leave (v := some (.int (0 : Int32))) (fun h => by rw [Bd.returns] at h; cases h)
      refine ⟨_, _, (retN X0 hx (t := .boolean) Bd.returns (by simp) (hb hby d4_17) hrr8), hrunr8, hendedr8, _, _, rfl, ?_, ⟨_, rfl⟩, hWr8, hsamer8.mono (by decide) (by decide)⟩
      show Q4 Z q1 q2 q3 q4 h0 n0 _ s₁.heap _
      rw [e0]
      exact ⟨(by unfold own_f4; rw [if_neg hc4_5, if_pos hc13_7]), N0, rfl⟩
    · refine own_pre (B := s₁.setTop (mkF m 18 #[.val (.long q1), .second, .val (.long q2), .second, .val (.long q3), .second, .val (.long q4), .second] [])) (fun t k => XS.ifYes X0.here hx rfl (pc0 := 13) (pc' := 18) rfl (hb hby d4_13) rfl ((if0 _ _).trans (flt (mt (lw_lt q1 q3).mp hc13_7)).2.1) (by decide) (by decide) k) ?_
      refine own_pre (B := s₁.setTop (mkF m 19 #[.val (.long q1), .second, .val (.long q2), .second, .val (.long q3), .second, .val (.long q4), .second] [(.long q2)])) (fun t k => XS.lloadN X0.here hx rfl (hb hby d4_18) rfl k) ?_
      refine own_pre (B := s₁.setTop (mkF m 21 #[.val (.long q1), .second, .val (.long q2), .second, .val (.long q3), .second, .val (.long q4), .second] [(.long q4), (.long q2)])) (fun t k => XS.lload X0.here hx rfl (hb hby d4_19) rfl k) ?_
      refine own_pre (B := s₁.setTop (mkF m 22 #[.val (.long q1), .second, .val (.long q2), .second, .val (.long q3), .second, .val (.long q4), .second] [(.int (lcmpW q2 q4))])) (fun t k => XS.lcmp X0.here hx rfl (hb hby d4_21) rfl k) ?_
      by_cases hc22_9 : q4 < q2
      · refine own_pre (B := s₁.setTop (mkF m 25 #[.val (.long q1), .second, .val (.long q2), .second, .val (.long q3), .second, .val (.long q4), .second] [])) (fun t k => XS.ifNo X0.here hx rfl (hb hby d4_22) rfl ((if0 _ _).trans (tlt ((lw_gt q2 q4).mpr hc22_9)).2.2.2) k) ?_
        refine own_pre (B := s₁.setTop (mkF m 26 #[.val (.long q1), .second, .val (.long q2), .second, .val (.long q3), .second, .val (.long q4), .second] [(.int (1 : Int32))])) (fun t k => XS.iconst X0.here hx rfl (hb hby d4_25) k) ?_
        refine own_pre (B := s₁.setTop (mkF m 30 #[.val (.long q1), .second, .val (.long q2), .second, .val (.long q3), .second, .val (.long q4), .second] [(.int (1 : Int32))])) (fun t k => XS.goto X0.here hx rfl (pc0 := 26) (pc' := 30) rfl (hb hby d4_26) (by decide) (by decide) k) ?_
        obtain ⟨fsr10, hrr10, hrunr10, hendedr10, hWr10, hsamer10⟩ := X0.leave (v := some (.int (1 : Int32))) (fun h => by rw [Bd.returns] at h; cases h)
        refine ⟨_, _, (retN X0 hx (t := .boolean) Bd.returns (by simp) (hb hby d4_30) hrr10), hrunr10, hendedr10, _, _, rfl, ?_, ⟨_, rfl⟩, hWr10, hsamer10.mono (by decide) (by decide)⟩
        show Q4 Z q1 q2 q3 q4 h0 n0 _ s₁.heap _
        rw [e0]
        exact ⟨(by unfold own_f4; rw [if_neg hc4_5, if_neg hc13_7, if_pos hc22_9]), N0, rfl⟩
      · refine own_pre (B := s₁.setTop (mkF m 29 #[.val (.long q1), .second, .val (.long q2), .second, .val (.long q3), .second, .val (.long q4), .second] [])) (fun t k => XS.ifYes X0.here hx rfl (pc0 := 22) (pc' := 29) rfl (hb hby d4_22) rfl ((if0 _ _).trans (flt (mt (lw_gt q2 q4).mp hc22_9)).2.2.2) (by decide) (by decide) k) ?_
        refine own_pre (B := s₁.setTop (mkF m 30 #[.val (.long q1), .second, .val (.long q2), .second, .val (.long q3), .second, .val (.long q4), .second] [(.int (0 : Int32))])) (fun t k => XS.iconst X0.here hx rfl (hb hby d4_29) k) ?_
        obtain ⟨fsr11, hrr11, hrunr11, hendedr11, hWr11, hsamer11⟩ := X0.leave (v := some (.int (0 : Int32))) (fun h => by rw [Bd.returns] at h; cases h)
        refine ⟨_, _, (retN X0 hx (t := .boolean) Bd.returns (by simp) (hb hby d4_30) hrr11), hrunr11, hendedr11, _, _, rfl, ?_, ⟨_, rfl⟩, hWr11, hsamer11.mono (by decide) (by decide)⟩
        show Q4 Z q1 q2 q3 q4 h0 n0 _ s₁.heap _
        rw [e0]
        exact ⟨(by unfold own_f4; rw [if_neg hc4_5, if_neg hc13_7, if_neg hc22_9]), N0, rfl⟩
theorem own_eq (w_epoch_a1 w_epoch_a2 w_zxid_a1 w_zxid_a2 : Int64) : own_f3 w_epoch_a1 w_epoch_a2 w_zxid_a1 w_zxid_a2 = own_f4 w_epoch_a1 w_zxid_a1 w_epoch_a2 w_zxid_a2 := by
  have q := @Int64.toInt_inj w_epoch_a1 w_epoch_a2
  unfold own_f3 own_f4
  simp only [Int64.lt_iff_toInt_lt, ← q]
  repeat' split
  all_goals first | rfl | (exfalso; omega)
theorem pd_0 : parseMethodDescriptor "(IJJ)V" = some ⟨[.int, .long, .long], none⟩ := by decide +kernel
theorem pd_1 : parseMethodDescriptor "(Lcom/example/tacit_quorum/tacitquorum/server/Vote;)Z" = some ⟨[(.object "com/example/tacit_quorum/tacitquorum/server/Vote")], some .boolean⟩ := by decide +kernel
theorem pd_2 : parseMethodDescriptor "(JJJJ)Z" = some ⟨[.long, .long, .long, .long], some .boolean⟩ := by decide +kernel
theorem pn_0 : plainName "com/example/tacit_quorum/tacitquorum/server/VoteIsAheadOfPinLaw" = true := by first | (simp [plainName, overriddenIn]; done) | decide +kernel
theorem ef_0 (m : MethodId) (x0 : Int32) (x1 : Int64) (x2 : Int64) (x3 : Int64) (x4 : Int64) (x5 : Int32) : entryFrame m #[(.int x0), (.long x1), (.long x2), (.long x3), (.long x4), (.int x5)] maxLocals = mkF m 0 #[.val (.int x0), .val (.long x1), .second, .val (.long x2), .second, .val (.long x3), .second, .val (.long x4), .second, .val (.int x5), .unset, .unset, .unset, .unset, .unset, .unset, .unset, .unset, .unset] [] := by first | (simp [entryFrame, mkF, argsToLocals, Value.category, maxLocals]; done) | rfl
def Q0 (Z : State) (p1 : Int32) (q2 : Int64) (q3 : Int64) (q4 : Int64) (q5 : Int64) (p6 : Int32) (h0 : Heap) (n0 : Nat) (v : Option Value) (h : Heap) (L : List Loc) : Prop := v = some (.int 1) ∧ Fr n0 L
set_option maxRecDepth 65536 in
set_option maxHeartbeats 40000000 in
theorem rm0 (l : Launch) (Z : State) (a0 : Array Value) (hw : ∀ d ∈ tables_1, d.before a0 Z = true) (ws : List Jvm.Cond) (p1 : Int32) (q2 : Int64) (q3 : Int64) (q4 : Int64) (q5 : Int64) (p6 : Int32) (h0 : Heap) (n0 : Nat) (Z0 : n0 ≤ h0.size) :
    MetFree l x (head1 (Jvm.Cond.code x code maxLocals ret :: ws) room_1) (fun a U => a = #[(.int p1), (.long q2), (.long q3), (.long q4), (.long q5), (.int p6)] ∧ Z.Warmed39 U.vm ∧ U.heap = h0) (fun _ _ _ _ _ => True) (fun _ U o U' => ∃ v L, o = .returned v ∧ Q0 Z p1 q2 q3 q4 q5 p6 h0 n0 v U'.heap L ∧ FrameEnd U o U' L 2 6) := by
  refine MetFree.of_bodySF (plainFor_of_name pn_0) hisR ?_
  intro p e s m args below meth c s₁ Bd hml0 hP hK
  obtain ⟨rfl, hZ, hh⟩ := hP
  have hx := Bd.exec
  have hby := Bd.bytes
  have hml : c.maxLocals = 19 := hml0
  have hown : s.vm.findClass "com/example/tacit_quorum/tacitquorum/server/VoteIsAheadOfPinLaw" = some m.cls := findClass_of_methodNamed Bd.named
  have hnm := (name_of_methodNamed Bd.named Bd.method).1
  have X0 : Stand p l e room_1 s m #[(.int p1), (.long q2), (.long q3), (.long q4), (.long q5), (.int p6)] below meth c s₁ [] 0 0 := Stand.of_body Bd
  have e0 : s₁.heap = h0 := by rw [← hh, Bd.state]; rfl
  have N0 := Fr.nil n0
  apply own_in
  refine own_pre (B := s₁.setTop (mkF m 0 #[.val (.int p1), .val (.long q2), .second, .val (.long q3), .second, .val (.long q4), .second, .val (.long q5), .second, .val (.int p6), .unset, .unset, .unset, .unset, .unset, .unset, .unset, .unset, .unset] [])) (fun t k => castTop (ef_0 m p1 q2 q3 q4 q5 p6) k) ?_
  refine own_pre (B := s₁.setTop (mkF m 2 #[.val (.int p1), .val (.long q2), .second, .val (.long q3), .second, .val (.long q4), .second, .val (.long q5), .second, .val (.int p6), .unset, .unset, .unset, .unset, .unset, .unset, .unset, .unset, .unset] [(.int p6)])) (fun t k => XS.iload X0.here hx rfl (hb hby at_0) rfl k) ?_
  refine own_pre (B := s₁.setTop (mkF m 3 #[.val (.int p1), .val (.long q2), .second, .val (.long q3), .second, .val (.long q4), .second, .val (.long q5), .second, .val (.int p6), .unset, .unset, .unset, .unset, .unset, .unset, .unset, .unset, .unset] [(.int (3 : Int32)), (.int p6)])) (fun t k => XS.iconst X0.here hx rfl (hb hby at_2) k) ?_
  refine own_pre (B := s₁.setTop (mkF m 4 #[.val (.int p1), .val (.long q2), .second, .val (.long q3), .second, .val (.long q4), .second, .val (.long q5), .second, .val (.int p6), .unset, .unset, .unset, .unset, .unset, .unset, .unset, .unset, .unset] [(.int (p6 &&& (3 : Int32)))])) (fun t k => XS.iand X0.here hx rfl (hb hby at_3) rfl k) ?_
  refine own_pre (B := s₁.setTop (mkF m 6 #[.val (.int p1), .val (.long q2), .second, .val (.long q3), .second, .val (.long q4), .second, .val (.long q5), .second, .val (.int p6), .val (.int (p6 &&& (3 : Int32))), .unset, .unset, .unset, .unset, .unset, .unset, .unset, .unset] [])) (fun t k => XS.istore X0.here hx rfl (hb hby at_4) rfl (l' := #[.val (.int p1), .val (.long q2), .second, .val (.long q3), .second, .val (.long q4), .second, .val (.long q5), .second, .val (.int p6), .val (.int (p6 &&& (3 : Int32))), .unset, .unset, .unset, .unset, .unset, .unset, .unset, .unset]) rfl k) ?_
  refine own_pre (B := s₁.setTop (mkF m 8 #[.val (.int p1), .val (.long q2), .second, .val (.long q3), .second, .val (.long q4), .second, .val (.long q5), .second, .val (.int p6), .val (.int (p6 &&& (3 : Int32))), .unset, .unset, .unset, .unset, .unset, .unset, .unset, .unset] [(.long q4)])) (fun t k => XS.lload X0.here hx rfl (hb hby at_6) rfl k) ?_
  refine own_pre (B := s₁.setTop (mkF m 10 #[.val (.int p1), .val (.long q2), .second, .val (.long q3), .second, .val (.long q4), .second, .val (.long q5), .second, .val (.int p6), .val (.int (p6 &&& (3 : Int32))), .val (.long q4), .second, .unset, .unset, .unset, .unset, .unset, .unset] [])) (fun t k => XS.lstore X0.here hx rfl (hb hby at_8) rfl (l' := #[.val (.int p1), .val (.long q2), .second, .val (.long q3), .second, .val (.long q4), .second, .val (.long q5), .second, .val (.int p6), .val (.int (p6 &&& (3 : Int32))), .val (.long q4), .second, .unset, .unset, .unset, .unset, .unset, .unset]) rfl k) ?_
  refine own_pre (B := s₁.setTop (mkF m 12 #[.val (.int p1), .val (.long q2), .second, .val (.long q3), .second, .val (.long q4), .second, .val (.long q5), .second, .val (.int p6), .val (.int (p6 &&& (3 : Int32))), .val (.long q4), .second, .unset, .unset, .unset, .unset, .unset, .unset] [(.long q5)])) (fun t k => XS.lload X0.here hx rfl (hb hby at_10) rfl k) ?_
  refine own_pre (B := s₁.setTop (mkF m 14 #[.val (.int p1), .val (.long q2), .second, .val (.long q3), .second, .val (.long q4), .second, .val (.long q5), .second, .val (.int p6), .val (.int (p6 &&& (3 : Int32))), .val (.long q4), .second, .val (.long q5), .second, .unset, .unset, .unset, .unset] [])) (fun t k => XS.lstore X0.here hx rfl (hb hby at_12) rfl (l' := #[.val (.int p1), .val (.long q2), .second, .val (.long q3), .second, .val (.long q4), .second, .val (.long q5), .second, .val (.int p6), .val (.int (p6 &&& (3 : Int32))), .val (.long q4), .second, .val (.long q5), .second, .unset, .unset, .unset, .unset]) rfl k) ?_
  refine own_pre (B := s₁.setTop (mkF m 16 #[.val (.int p1), .val (.long q2), .second, .val (.long q3), .second, .val (.long q4), .second, .val (.long q5), .second, .val (.int p6), .val (.int (p6 &&& (3 : Int32))), .val (.long q4), .second, .val (.long q5), .second, .unset, .unset, .unset, .unset] [(.int (p6 &&& (3 : Int32)))])) (fun t k => XS.iload X0.here hx rfl (hb hby at_14) rfl k) ?_
  obtain ⟨z7, hz7⟩ : ∃ z : Int64, z = (if (p6 &&& (3 : Int32)) = (0 : Int32) then q4 else (if (p6 &&& (3 : Int32)) = (1 : Int32) then q2 else (if (p6 &&& (3 : Int32)) = (3 : Int32) then q2 else q4))) := ⟨_, rfl⟩
  obtain ⟨z8, hz8⟩ : ∃ z : Int64, z = (if (p6 &&& (3 : Int32)) = (0 : Int32) then q3 else (if (p6 &&& (3 : Int32)) = (1 : Int32) then q3 else (if (p6 &&& (3 : Int32)) = (3 : Int32) then q5 else q5))) := ⟨_, rfl⟩
  refine own_pre (B := s₁.setTop (mkF m 49 #[.val (.int p1), .val (.long q2), .second, .val (.long q3), .second, .val (.long q4), .second, .val (.long q5), .second, .val (.int p6), .val (.int (p6 &&& (3 : Int32))), .val (.long z7), .second, .val (.long z8), .second, .unset, .unset, .unset, .unset] [])) (fun t k => ?_) ?_
  · by_cases hc16_9 : (p6 &&& (3 : Int32)) = (0 : Int32)
    · refine XS.ifNo X0.here hx rfl (hb hby at_16) rfl ((if0 _ _).trans (teq hc16_9).2) ?_
      show Steps p.tables e below (s₁.setTop (mkF m 19 #[.val (.int p1), .val (.long q2), .second, .val (.long q3), .second, .val (.long q4), .second, .val (.long q5), .second, .val (.int p6), .val (.int (p6 &&& (3 : Int32))), .val (.long q4), .second, .val (.long q5), .second, .unset, .unset, .unset, .unset] [])) _
      refine XS.lloadN X0.here hx rfl (hb hby at_19) rfl ?_
      show Steps p.tables e below (s₁.setTop (mkF m 20 #[.val (.int p1), .val (.long q2), .second, .val (.long q3), .second, .val (.long q4), .second, .val (.long q5), .second, .val (.int p6), .val (.int (p6 &&& (3 : Int32))), .val (.long q4), .second, .val (.long q5), .second, .unset, .unset, .unset, .unset] [(.long q3)])) _
      refine XS.lstore X0.here hx rfl (hb hby at_20) rfl (l' := #[.val (.int p1), .val (.long q2), .second, .val (.long q3), .second, .val (.long q4), .second, .val (.long q5), .second, .val (.int p6), .val (.int (p6 &&& (3 : Int32))), .val (.long q4), .second, .val (.long q3), .second, .unset, .unset, .unset, .unset]) rfl ?_
      show Steps p.tables e below (s₁.setTop (mkF m 22 #[.val (.int p1), .val (.long q2), .second, .val (.long q3), .second, .val (.long q4), .second, .val (.long q5), .second, .val (.int p6), .val (.int (p6 &&& (3 : Int32))), .val (.long q4), .second, .val (.long q3), .second, .unset, .unset, .unset, .unset] [])) _
      refine XS.goto X0.here hx rfl (pc0 := 22) (pc' := 49) rfl (hb hby at_22) (by decide) (by decide) ?_
      show Steps p.tables e below (s₁.setTop (mkF m 49 #[.val (.int p1), .val (.long q2), .second, .val (.long q3), .second, .val (.long q4), .second, .val (.long q5), .second, .val (.int p6), .val (.int (p6 &&& (3 : Int32))), .val (.long q4), .second, .val (.long q3), .second, .unset, .unset, .unset, .unset] [])) _
      rw [if_pos hc16_9] at hz7
      subst hz7
      rw [if_pos hc16_9] at hz8
      subst hz8
      exact k
    · refine XS.ifYes X0.here hx rfl (pc0 := 16) (pc' := 25) rfl (hb hby at_16) rfl ((if0 _ _).trans (feq hc16_9).2) (by decide) (by decide) ?_
      show Steps p.tables e below (s₁.setTop (mkF m 25 #[.val (.int p1), .val (.long q2), .second, .val (.long q3), .second, .val (.long q4), .second, .val (.long q5), .second, .val (.int p6), .val (.int (p6 &&& (3 : Int32))), .val (.long q4), .second, .val (.long q5), .second, .unset, .unset, .unset, .unset] [])) _
      refine XS.iload X0.here hx rfl (hb hby at_25) rfl ?_
      show Steps p.tables e below (s₁.setTop (mkF m 27 #[.val (.int p1), .val (.long q2), .second, .val (.long q3), .second, .val (.long q4), .second, .val (.long q5), .second, .val (.int p6), .val (.int (p6 &&& (3 : Int32))), .val (.long q4), .second, .val (.long q5), .second, .unset, .unset, .unset, .unset] [(.int (p6 &&& (3 : Int32)))])) _
      refine XS.iconst X0.here hx rfl (hb hby at_27) ?_
      show Steps p.tables e below (s₁.setTop (mkF m 28 #[.val (.int p1), .val (.long q2), .second, .val (.long q3), .second, .val (.long q4), .second, .val (.long q5), .second, .val (.int p6), .val (.int (p6 &&& (3 : Int32))), .val (.long q4), .second, .val (.long q5), .second, .unset, .unset, .unset, .unset] [(.int (1 : Int32)), (.int (p6 &&& (3 : Int32)))])) _
      by_cases hc28_10 : (p6 &&& (3 : Int32)) = (1 : Int32)
      · refine XS.icmpNo X0.here hx rfl (hb hby at_28) rfl (teq hc28_10).2 ?_
        show Steps p.tables e below (s₁.setTop (mkF m 31 #[.val (.int p1), .val (.long q2), .second, .val (.long q3), .second, .val (.long q4), .second, .val (.long q5), .second, .val (.int p6), .val (.int (p6 &&& (3 : Int32))), .val (.long q4), .second, .val (.long q5), .second, .unset, .unset, .unset, .unset] [])) _
        refine XS.lloadN X0.here hx rfl (hb hby at_31) rfl ?_
        show Steps p.tables e below (s₁.setTop (mkF m 32 #[.val (.int p1), .val (.long q2), .second, .val (.long q3), .second, .val (.long q4), .second, .val (.long q5), .second, .val (.int p6), .val (.int (p6 &&& (3 : Int32))), .val (.long q4), .second, .val (.long q5), .second, .unset, .unset, .unset, .unset] [(.long q3)])) _
        refine XS.lstore X0.here hx rfl (hb hby at_32) rfl (l' := #[.val (.int p1), .val (.long q2), .second, .val (.long q3), .second, .val (.long q4), .second, .val (.long q5), .second, .val (.int p6), .val (.int (p6 &&& (3 : Int32))), .val (.long q4), .second, .val (.long q3), .second, .unset, .unset, .unset, .unset]) rfl ?_
        show Steps p.tables e below (s₁.setTop (mkF m 34 #[.val (.int p1), .val (.long q2), .second, .val (.long q3), .second, .val (.long q4), .second, .val (.long q5), .second, .val (.int p6), .val (.int (p6 &&& (3 : Int32))), .val (.long q4), .second, .val (.long q3), .second, .unset, .unset, .unset, .unset] [])) _
        refine XS.lloadN X0.here hx rfl (hb hby at_34) rfl ?_
        show Steps p.tables e below (s₁.setTop (mkF m 35 #[.val (.int p1), .val (.long q2), .second, .val (.long q3), .second, .val (.long q4), .second, .val (.long q5), .second, .val (.int p6), .val (.int (p6 &&& (3 : Int32))), .val (.long q4), .second, .val (.long q3), .second, .unset, .unset, .unset, .unset] [(.long q2)])) _
        refine XS.lstore X0.here hx rfl (hb hby at_35) rfl (l' := #[.val (.int p1), .val (.long q2), .second, .val (.long q3), .second, .val (.long q4), .second, .val (.long q5), .second, .val (.int p6), .val (.int (p6 &&& (3 : Int32))), .val (.long q2), .second, .val (.long q3), .second, .unset, .unset, .unset, .unset]) rfl ?_
        show Steps p.tables e below (s₁.setTop (mkF m 37 #[.val (.int p1), .val (.long q2), .second, .val (.long q3), .second, .val (.long q4), .second, .val (.long q5), .second, .val (.int p6), .val (.int (p6 &&& (3 : Int32))), .val (.long q2), .second, .val (.long q3), .second, .unset, .unset, .unset, .unset] [])) _
        refine XS.goto X0.here hx rfl (pc0 := 37) (pc' := 49) rfl (hb hby at_37) (by decide) (by decide) ?_
        show Steps p.tables e below (s₁.setTop (mkF m 49 #[.val (.int p1), .val (.long q2), .second, .val (.long q3), .second, .val (.long q4), .second, .val (.long q5), .second, .val (.int p6), .val (.int (p6 &&& (3 : Int32))), .val (.long q2), .second, .val (.long q3), .second, .unset, .unset, .unset, .unset] [])) _
        rw [if_neg hc16_9, if_pos hc28_10] at hz7
        subst hz7
        rw [if_neg hc16_9, if_pos hc28_10] at hz8
        subst hz8
        exact k
      · refine XS.icmpYes X0.here hx rfl (pc0 := 28) (pc' := 40) rfl (hb hby at_28) rfl (feq hc28_10).2 (by decide) (by decide) ?_
        show Steps p.tables e below (s₁.setTop (mkF m 40 #[.val (.int p1), .val (.long q2), .second, .val (.long q3), .second, .val (.long q4), .second, .val (.long q5), .second, .val (.int p6), .val (.int (p6 &&& (3 : Int32))), .val (.long q4), .second, .val (.long q5), .second, .unset, .unset, .unset, .unset] [])) _
        refine XS.iload X0.here hx rfl (hb hby at_40) rfl ?_
        show Steps p.tables e below (s₁.setTop (mkF m 42 #[.val (.int p1), .val (.long q2), .second, .val (.long q3), .second, .val (.long q4), .second, .val (.long q5), .second, .val (.int p6), .val (.int (p6 &&& (3 : Int32))), .val (.long q4), .second, .val (.long q5), .second, .unset, .unset, .unset, .unset] [(.int (p6 &&& (3 : Int32)))])) _
        refine XS.iconst X0.here hx rfl (hb hby at_42) ?_
        show Steps p.tables e below (s₁.setTop (mkF m 43 #[.val (.int p1), .val (.long q2), .second, .val (.long q3), .second, .val (.long q4), .second, .val (.long q5), .second, .val (.int p6), .val (.int (p6 &&& (3 : Int32))), .val (.long q4), .second, .val (.long q5), .second, .unset, .unset, .unset, .unset] [(.int (3 : Int32)), (.int (p6 &&& (3 : Int32)))])) _
        by_cases hc43_11 : (p6 &&& (3 : Int32)) = (3 : Int32)
        · refine XS.icmpNo X0.here hx rfl (hb hby at_43) rfl (teq hc43_11).2 ?_
          show Steps p.tables e below (s₁.setTop (mkF m 46 #[.val (.int p1), .val (.long q2), .second, .val (.long q3), .second, .val (.long q4), .second, .val (.long q5), .second, .val (.int p6), .val (.int (p6 &&& (3 : Int32))), .val (.long q4), .second, .val (.long q5), .second, .unset, .unset, .unset, .unset] [])) _
          refine XS.lloadN X0.here hx rfl (hb hby at_46) rfl ?_
          show Steps p.tables e below (s₁.setTop (mkF m 47 #[.val (.int p1), .val (.long q2), .second, .val (.long q3), .second, .val (.long q4), .second, .val (.long q5), .second, .val (.int p6), .val (.int (p6 &&& (3 : Int32))), .val (.long q4), .second, .val (.long q5), .second, .unset, .unset, .unset, .unset] [(.long q2)])) _
          refine XS.lstore X0.here hx rfl (hb hby at_47) rfl (l' := #[.val (.int p1), .val (.long q2), .second, .val (.long q3), .second, .val (.long q4), .second, .val (.long q5), .second, .val (.int p6), .val (.int (p6 &&& (3 : Int32))), .val (.long q2), .second, .val (.long q5), .second, .unset, .unset, .unset, .unset]) rfl ?_
          show Steps p.tables e below (s₁.setTop (mkF m 49 #[.val (.int p1), .val (.long q2), .second, .val (.long q3), .second, .val (.long q4), .second, .val (.long q5), .second, .val (.int p6), .val (.int (p6 &&& (3 : Int32))), .val (.long q2), .second, .val (.long q5), .second, .unset, .unset, .unset, .unset] [])) _
          rw [if_neg hc16_9, if_neg hc28_10, if_pos hc43_11] at hz7
          subst hz7
          rw [if_neg hc16_9, if_neg hc28_10, if_pos hc43_11] at hz8
          subst hz8
          exact k
        · refine XS.icmpYes X0.here hx rfl (pc0 := 43) (pc' := 49) rfl (hb hby at_43) rfl (feq hc43_11).2 (by decide) (by decide) ?_
          show Steps p.tables e below (s₁.setTop (mkF m 49 #[.val (.int p1), .val (.long q2), .second, .val (.long q3), .second, .val (.long q4), .second, .val (.long q5), .second, .val (.int p6), .val (.int (p6 &&& (3 : Int32))), .val (.long q4), .second, .val (.long q5), .second, .unset, .unset, .unset, .unset] [])) _
          rw [if_neg hc16_9, if_neg hc28_10, if_neg hc43_11] at hz7
          subst hz7
          rw [if_neg hc16_9, if_neg hc28_10, if_neg hc43_11] at hz8
          subst hz8
          exact k
  have K12 : Keep h0 h0 [] := (Keep.refl h0 [])
  obtain ⟨T13, h13, X13, e13, E13, A13, D13, -, st13⟩ := newO X0 hx hZ hown (hw _ (ow 0 rfl)) (hw _ (ow 1 rfl)) (hw _ (ow 2 rfl)) e0 (g := (mkF m 49 #[.val (.int p1), .val (.long q2), .second, .val (.long q3), .second, .val (.long q4), .second, .val (.long q5), .second, .val (.int p6), .val (.int (p6 &&& (3 : Int32))), .val (.long z7), .second, .val (.long z8), .second, .unset, .unset, .unset, .unset] [])) rfl (hb hby at_49) (by decide) (by decide)
  obtain ⟨b13, g13⟩ : ∃ z, z = h0.size := ⟨_, rfl⟩
  rw [← g13] at A13 D13 st13
  have g_b13 : n0 ≤ b13 := Nat.le_trans Z0 (Nat.le_of_eq g13.symm)
  have s_b13 : h0.size ≤ b13 := Nat.le_trans K12.1 (Nat.le_of_eq g13.symm)
  have F_leader_b13 : Fld Z h13 b13 "com/example/tacit_quorum/tacitquorum/server/Vote" "leader" "I" (.int (0 : Int32)) := D13 (Or.inr (hw _ (ow 10 rfl))) (ty := .int) (by decide)
  have F_zxid_b13 : Fld Z h13 b13 "com/example/tacit_quorum/tacitquorum/server/Vote" "zxid" "J" (.long (0 : Int64)) := D13 (Or.inr (hw _ (ow 12 rfl))) (ty := .long) (by decide)
  have F_epoch_b13 : Fld Z h13 b13 "com/example/tacit_quorum/tacitquorum/server/Vote" "epoch" "J" (.long (0 : Int64)) := D13 (Or.inr (hw _ (ow 14 rfl))) (ty := .long) (by decide)
  refine own_pre (B := T13.setTop (mkF m 52 #[.val (.int p1), .val (.long q2), .second, .val (.long q3), .second, .val (.long q4), .second, .val (.long q5), .second, .val (.int p6), .val (.int (p6 &&& (3 : Int32))), .val (.long z7), .second, .val (.long z8), .second, .unset, .unset, .unset, .unset] [(.ref b13)])) (fun t k => st13 t k) ?_
  refine own_pre (B := T13.setTop (mkF m 53 #[.val (.int p1), .val (.long q2), .second, .val (.long q3), .second, .val (.long q4), .second, .val (.long q5), .second, .val (.int p6), .val (.int (p6 &&& (3 : Int32))), .val (.long z7), .second, .val (.long z8), .second, .unset, .unset, .unset, .unset] [(.ref b13), (.ref b13)])) (fun t k => XS.dup X13.here hx rfl (hb hby at_52) rfl rfl k) ?_
  refine own_pre (B := T13.setTop (mkF m 54 #[.val (.int p1), .val (.long q2), .second, .val (.long q3), .second, .val (.long q4), .second, .val (.long q5), .second, .val (.int p6), .val (.int (p6 &&& (3 : Int32))), .val (.long z7), .second, .val (.long z8), .second, .unset, .unset, .unset, .unset] [(.int p1), (.ref b13), (.ref b13)])) (fun t k => XS.iloadN X13.here hx rfl (hb hby at_53) rfl k) ?_
  refine own_pre (B := T13.setTop (mkF m 55 #[.val (.int p1), .val (.long q2), .second, .val (.long q3), .second, .val (.long q4), .second, .val (.long q5), .second, .val (.int p6), .val (.int (p6 &&& (3 : Int32))), .val (.long z7), .second, .val (.long z8), .second, .unset, .unset, .unset, .unset] [(.long q2), (.int p1), (.ref b13), (.ref b13)])) (fun t k => XS.lloadN X13.here hx rfl (hb hby at_54) rfl k) ?_
  refine own_pre (B := T13.setTop (mkF m 56 #[.val (.int p1), .val (.long q2), .second, .val (.long q3), .second, .val (.long q4), .second, .val (.long q5), .second, .val (.int p6), .val (.int (p6 &&& (3 : Int32))), .val (.long z7), .second, .val (.long z8), .second, .unset, .unset, .unset, .unset] [(.long q3), (.long q2), (.int p1), (.ref b13), (.ref b13)])) (fun t k => XS.lloadN X13.here hx rfl (hb hby at_55) rfl k) ?_
  have sz14 : n0 ≤ h13.size := (Nat.le_trans Z0 E13.1)
  obtain ⟨_, _, ⟨T15, L15, k15, n15⟩, -, X15, ⟨Lc15, hQ15, l15, y15, z15⟩, st15⟩ := X13.specialBack hx (y := (⟨"com/example/tacit_quorum/tacitquorum/server/Vote", "<init>", "(IJJ)V"⟩ : MethodName)) rfl hown (mvT hZ (hw _ (ow 3 rfl))) (mvT hZ (hw _ (ow 4 rfl))) (mvT hZ (hw _ (ow 5 rfl))) (by decide) (backOf (W := 1) (rm1 l Z a0 hw [] b13 p1 q2 q3 (.int (0 : Int32)) (.long (0 : Int64)) (.long (0 : Int64)) h13 n0 sz14 A13 F_leader_b13 g_b13 F_zxid_b13 F_epoch_b13) hZ (hw _ (ow 5 rfl)) (hw _ (ow 2 rfl)) (by decide) (by decide)) (g := (mkF m 56 #[.val (.int p1), .val (.long q2), .second, .val (.long q3), .second, .val (.long q4), .second, .val (.long q5), .second, .val (.int p6), .val (.int (p6 &&& (3 : Int32))), .val (.long z7), .second, .val (.long z8), .second, .unset, .unset, .unset, .unset] [(.long q3), (.long q2), (.int p1), (.ref b13), (.ref b13)])) rfl (by rw [hml]; rfl) (Steps.refl _) (a := b13) (argsL := [(.int p1), (.long q2), (.long q3)]) (rest := [(.ref b13)]) (lenOf pd_0 rfl) rfl (by show 2 * 0 + _ ≤ _; exact Nat.le_of_eq rfl) (hb hby at_56) (fun _ _ => ⟨rfl, e13, (by decide : 1 + 0 ≤ _), (by decide : 3 + 0 ≤ _)⟩)
  dsimp only [Pt.U, Pt.locs, Pt.cells, Pt.slots] at X15 l15 y15 z15 st15 hQ15
  subst l15 y15 z15
  obtain ⟨rfl, N15q, K15, q15_0, q15_1, q15_2, q15_3⟩ := hQ15
  have N15 := Fr.app N0 N15q
  have K16 : Keep h0 h13 [] := (Keep.ext K12 E13)
  refine own_pre (B := T15.setTop (mkF m 59 #[.val (.int p1), .val (.long q2), .second, .val (.long q3), .second, .val (.long q4), .second, .val (.long q5), .second, .val (.int p6), .val (.int (p6 &&& (3 : Int32))), .val (.long z7), .second, .val (.long z8), .second, .unset, .unset, .unset, .unset] [(.ref b13)])) (fun t k => st15.trans k) ?_
  refine own_pre (B := T15.setTop (mkF m 61 #[.val (.int p1), .val (.long q2), .second, .val (.long q3), .second, .val (.long q4), .second, .val (.long q5), .second, .val (.int p6), .val (.int (p6 &&& (3 : Int32))), .val (.long z7), .second, .val (.long z8), .second, .val (.ref b13), .unset, .unset, .unset] [])) (fun t k => XS.astore X15.here hx rfl (hb hby at_59) rfl rfl (l' := #[.val (.int p1), .val (.long q2), .second, .val (.long q3), .second, .val (.long q4), .second, .val (.long q5), .second, .val (.int p6), .val (.int (p6 &&& (3 : Int32))), .val (.long z7), .second, .val (.long z8), .second, .val (.ref b13), .unset, .unset, .unset]) rfl k) ?_
  have K17 : Keep h0 T15.heap [] := (Keep.trans K16 K15 (allS (P := fun x => x ∈ [] ∨ h0.size ≤ x) (Or.inr s_b13) all0))
  obtain ⟨T18, h18, X18, e18, E18, A18, D18, -, st18⟩ := newO X15 hx hZ hown (hw _ (ow 0 rfl)) (hw _ (ow 1 rfl)) (hw _ (ow 2 rfl)) rfl (g := (mkF m 61 #[.val (.int p1), .val (.long q2), .second, .val (.long q3), .second, .val (.long q4), .second, .val (.long q5), .second, .val (.int p6), .val (.int (p6 &&& (3 : Int32))), .val (.long z7), .second, .val (.long z8), .second, .val (.ref b13), .unset, .unset, .unset] [])) rfl (hb hby at_61) (by decide) (by decide)
  have sz19 : n0 ≤ T15.heap.size := (Nat.le_trans sz14 K15.1)
  obtain ⟨b18, g18⟩ : ∃ z, z = T15.heap.size := ⟨_, rfl⟩
  rw [← g18] at A18 D18 st18
  have g_b18 : n0 ≤ b18 := Nat.le_trans sz19 (Nat.le_of_eq g18.symm)
  have s_b18 : h0.size ≤ b18 := Nat.le_trans K17.1 (Nat.le_of_eq g18.symm)
  have ne20 : b13 ≠ b18 := Nat.ne_of_lt (Nat.lt_of_lt_of_le (Exa.lt q15_0) (Nat.le_of_eq g18.symm))
  have F_leader_b18 : Fld Z h18 b18 "com/example/tacit_quorum/tacitquorum/server/Vote" "leader" "I" (.int (0 : Int32)) := D18 (Or.inr (hw _ (ow 10 rfl))) (ty := .int) (by decide)
  have F_zxid_b18 : Fld Z h18 b18 "com/example/tacit_quorum/tacitquorum/server/Vote" "zxid" "J" (.long (0 : Int64)) := D18 (Or.inr (hw _ (ow 12 rfl))) (ty := .long) (by decide)
  have F_epoch_b18 : Fld Z h18 b18 "com/example/tacit_quorum/tacitquorum/server/Vote" "epoch" "J" (.long (0 : Int64)) := D18 (Or.inr (hw _ (ow 14 rfl))) (ty := .long) (by decide)
  refine own_pre (B := T18.setTop (mkF m 64 #[.val (.int p1), .val (.long q2), .second, .val (.long q3), .second, .val (.long q4), .second, .val (.long q5), .second, .val (.int p6), .val (.int (p6 &&& (3 : Int32))), .val (.long z7), .second, .val (.long z8), .second, .val (.ref b13), .unset, .unset, .unset] [(.ref b18)])) (fun t k => st18 t k) ?_
  refine own_pre (B := T18.setTop (mkF m 65 #[.val (.int p1), .val (.long q2), .second, .val (.long q3), .second, .val (.long q4), .second, .val (.long q5), .second, .val (.int p6), .val (.int (p6 &&& (3 : Int32))), .val (.long z7), .second, .val (.long z8), .second, .val (.ref b13), .unset, .unset, .unset] [(.ref b18), (.ref b18)])) (fun t k => XS.dup X18.here hx rfl (hb hby at_64) rfl rfl k) ?_
  refine own_pre (B := T18.setTop (mkF m 67 #[.val (.int p1), .val (.long q2), .second, .val (.long q3), .second, .val (.long q4), .second, .val (.long q5), .second, .val (.int p6), .val (.int (p6 &&& (3 : Int32))), .val (.long z7), .second, .val (.long z8), .second, .val (.ref b13), .unset, .unset, .unset] [(.int p6), (.ref b18), (.ref b18)])) (fun t k => XS.iload X18.here hx rfl (hb hby at_65) rfl k) ?_
  refine own_pre (B := T18.setTop (mkF m 69 #[.val (.int p1), .val (.long q2), .second, .val (.long q3), .second, .val (.long q4), .second, .val (.long q5), .second, .val (.int p6), .val (.int (p6 &&& (3 : Int32))), .val (.long z7), .second, .val (.long z8), .second, .val (.ref b13), .unset, .unset, .unset] [(.long z7), (.int p6), (.ref b18), (.ref b18)])) (fun t k => XS.lload X18.here hx rfl (hb hby at_67) rfl k) ?_
  refine own_pre (B := T18.setTop (mkF m 71 #[.val (.int p1), .val (.long q2), .second, .val (.long q3), .second, .val (.long q4), .second, .val (.long q5), .second, .val (.int p6), .val (.int (p6 &&& (3 : Int32))), .val (.long z7), .second, .val (.long z8), .second, .val (.ref b13), .unset, .unset, .unset] [(.long z8), (.long z7), (.int p6), (.ref b18), (.ref b18)])) (fun t k => XS.lload X18.here hx rfl (hb hby at_69) rfl k) ?_
  have sz21 : n0 ≤ h18.size := (Nat.le_trans sz19 E18.1)
  obtain ⟨_, _, ⟨T22, L22, k22, n22⟩, -, X22, ⟨Lc22, hQ22, l22, y22, z22⟩, st22⟩ := X18.specialBack hx (y := (⟨"com/example/tacit_quorum/tacitquorum/server/Vote", "<init>", "(IJJ)V"⟩ : MethodName)) rfl hown (mvT hZ (hw _ (ow 3 rfl))) (mvT hZ (hw _ (ow 4 rfl))) (mvT hZ (hw _ (ow 5 rfl))) (by decide) (backOf (W := 1) (rm1 l Z a0 hw [] b18 p6 z7 z8 (.int (0 : Int32)) (.long (0 : Int64)) (.long (0 : Int64)) h18 n0 sz21 A18 F_leader_b18 g_b18 F_zxid_b18 F_epoch_b18) hZ (hw _ (ow 5 rfl)) (hw _ (ow 2 rfl)) (by decide) (by decide)) (g := (mkF m 71 #[.val (.int p1), .val (.long q2), .second, .val (.long q3), .second, .val (.long q4), .second, .val (.long q5), .second, .val (.int p6), .val (.int (p6 &&& (3 : Int32))), .val (.long z7), .second, .val (.long z8), .second, .val (.ref b13), .unset, .unset, .unset] [(.long z8), (.long z7), (.int p6), (.ref b18), (.ref b18)])) rfl (by rw [hml]; rfl) (Steps.refl _) (a := b18) (argsL := [(.int p6), (.long z7), (.long z8)]) (rest := [(.ref b18)]) (lenOf pd_0 rfl) rfl (by show 2 * 0 + _ ≤ _; exact Nat.le_of_eq rfl) (hb hby at_71) (fun _ _ => ⟨rfl, e18, (by decide : 2 + 0 ≤ _), (by decide : 6 + 0 ≤ _)⟩)
  dsimp only [Pt.U, Pt.locs, Pt.cells, Pt.slots] at X22 l22 y22 z22 st22 hQ22
  subst l22 y22 z22
  obtain ⟨rfl, N22q, K22, q22_0, q22_1, q22_2, q22_3⟩ := hQ22
  have N22 := Fr.app N15 N22q
  have K23 : Keep h0 h18 [] := (Keep.ext K17 E18)
  refine own_pre (B := T22.setTop (mkF m 74 #[.val (.int p1), .val (.long q2), .second, .val (.long q3), .second, .val (.long q4), .second, .val (.long q5), .second, .val (.int p6), .val (.int (p6 &&& (3 : Int32))), .val (.long z7), .second, .val (.long z8), .second, .val (.ref b13), .unset, .unset, .unset] [(.ref b18)])) (fun t k => st22.trans k) ?_
  refine own_pre (B := T22.setTop (mkF m 76 #[.val (.int p1), .val (.long q2), .second, .val (.long q3), .second, .val (.long q4), .second, .val (.long q5), .second, .val (.int p6), .val (.int (p6 &&& (3 : Int32))), .val (.long z7), .second, .val (.long z8), .second, .val (.ref b13), .val (.ref b18), .unset, .unset] [])) (fun t k => XS.astore X22.here hx rfl (hb hby at_74) rfl rfl (l' := #[.val (.int p1), .val (.long q2), .second, .val (.long q3), .second, .val (.long q4), .second, .val (.long q5), .second, .val (.int p6), .val (.int (p6 &&& (3 : Int32))), .val (.long z7), .second, .val (.long z8), .second, .val (.ref b13), .val (.ref b18), .unset, .unset]) rfl k) ?_
  refine own_pre (B := T22.setTop (mkF m 78 #[.val (.int p1), .val (.long q2), .second, .val (.long q3), .second, .val (.long q4), .second, .val (.long q5), .second, .val (.int p6), .val (.int (p6 &&& (3 : Int32))), .val (.long z7), .second, .val (.long z8), .second, .val (.ref b13), .val (.ref b18), .unset, .unset] [(.ref b13)])) (fun t k => XS.aload X22.here hx rfl (hb hby at_76) rfl rfl k) ?_
  refine own_pre (B := T22.setTop (mkF m 80 #[.val (.int p1), .val (.long q2), .second, .val (.long q3), .second, .val (.long q4), .second, .val (.long q5), .second, .val (.int p6), .val (.int (p6 &&& (3 : Int32))), .val (.long z7), .second, .val (.long z8), .second, .val (.ref b13), .val (.ref b18), .unset, .unset] [(.ref b18), (.ref b13)])) (fun t k => XS.aload X22.here hx rfl (hb hby at_78) rfl rfl k) ?_
  have c24 := (Fld.keep (q15_3.ext E18) K22 (ninS ne20 nin0))
  have c25 := (Fld.keep (q15_2.ext E18) K22 (ninS ne20 nin0))
  have sz26 : n0 ≤ T22.heap.size := (Nat.le_trans sz21 K22.1)
  have c28 := (Exa.keep (q15_0.ext E18) K22)
  obtain ⟨cq27, kq27, q27a, q27b, q27c⟩ := isOf hZ rfl c28
  obtain ⟨_, _, ⟨T27, L27, k27, n27⟩, -, X27, ⟨Lc27, hQ27, l27, y27, z27⟩, st27⟩ := X22.virtualBack hx (y := (⟨"com/example/tacit_quorum/tacitquorum/server/Vote", "isAheadOf", "(Lcom/example/tacit_quorum/tacitquorum/server/Vote;)Z"⟩ : MethodName)) (z := (⟨"com/example/tacit_quorum/tacitquorum/server/Vote", "isAheadOf", "(Lcom/example/tacit_quorum/tacitquorum/server/Vote;)Z"⟩ : MethodName)) hown (mvT hZ (hw _ (ow 15 rfl))) (mvT hZ (hw _ (ow 16 rfl))) (notFace_of_selects (args := #[]) (mvT hZ (hw _ (ow 18 rfl)))) (mvT hZ (hw _ (ow 18 rfl))) (mvT hZ (hw _ (ow 17 rfl))) (by decide) (backOf (W := 0) (rm3 l Z a0 hw [] b13 b18 q3 z8 q2 z7 T22.heap n0 sz26 c24 q22_3 c25 q22_2) hZ (hw _ (ow 19 rfl)) (hw _ (ow 2 rfl)) (by decide) (by decide)) q27a q27c (g := (mkF m 80 #[.val (.int p1), .val (.long q2), .second, .val (.long q3), .second, .val (.long q4), .second, .val (.long q5), .second, .val (.int p6), .val (.int (p6 &&& (3 : Int32))), .val (.long z7), .second, .val (.long z8), .second, .val (.ref b13), .val (.ref b18), .unset, .unset] [(.ref b18), (.ref b13)])) rfl (by rw [hml]; rfl) (Steps.refl _) (argsL := [(.ref b18)]) (rest := []) (lenOf pd_1 rfl) rfl (by show 2 * 0 + _ ≤ _; exact Nat.le_of_eq rfl) (hb hby at_80) (fun _ _ => ⟨rfl, rfl, (by decide : 2 + 0 ≤ _), (by decide : 6 + 0 ≤ _)⟩)
  dsimp only [Pt.U, Pt.locs, Pt.cells, Pt.slots] at X27 l27 y27 z27 st27 hQ27
  subst l27 y27 z27
  obtain ⟨rfl, N27q, e27⟩ := hQ27
  have N27 := Fr.app N22 N27q
  refine own_pre (B := T27.setTop (mkF m 83 #[.val (.int p1), .val (.long q2), .second, .val (.long q3), .second, .val (.long q4), .second, .val (.long q5), .second, .val (.int p6), .val (.int (p6 &&& (3 : Int32))), .val (.long z7), .second, .val (.long z8), .second, .val (.ref b13), .val (.ref b18), .unset, .unset] [(.int (own_f3 q3 z8 q2 z7))])) (fun t k => st27.trans k) ?_
  refine own_pre (B := T27.setTop (mkF m 85 #[.val (.int p1), .val (.long q2), .second, .val (.long q3), .second, .val (.long q4), .second, .val (.long q5), .second, .val (.int p6), .val (.int (p6 &&& (3 : Int32))), .val (.long z7), .second, .val (.long z8), .second, .val (.ref b13), .val (.ref b18), .val (.int (own_f3 q3 z8 q2 z7)), .unset] [])) (fun t k => XS.istore X27.here hx rfl (hb hby at_83) rfl (l' := #[.val (.int p1), .val (.long q2), .second, .val (.long q3), .second, .val (.long q4), .second, .val (.long q5), .second, .val (.int p6), .val (.int (p6 &&& (3 : Int32))), .val (.long z7), .second, .val (.long z8), .second, .val (.ref b13), .val (.ref b18), .val (.int (own_f3 q3 z8 q2 z7)), .unset]) rfl k) ?_
  refine own_pre (B := T27.setTop (mkF m 87 #[.val (.int p1), .val (.long q2), .second, .val (.long q3), .second, .val (.long q4), .second, .val (.long q5), .second, .val (.int p6), .val (.int (p6 &&& (3 : Int32))), .val (.long z7), .second, .val (.long z8), .second, .val (.ref b13), .val (.ref b18), .val (.int (own_f3 q3 z8 q2 z7)), .unset] [(.ref b18)])) (fun t k => XS.aload X27.here hx rfl (hb hby at_85) rfl rfl k) ?_
  refine own_pre (B := T27.setTop (mkF m 89 #[.val (.int p1), .val (.long q2), .second, .val (.long q3), .second, .val (.long q4), .second, .val (.long q5), .second, .val (.int p6), .val (.int (p6 &&& (3 : Int32))), .val (.long z7), .second, .val (.long z8), .second, .val (.ref b13), .val (.ref b18), .val (.int (own_f3 q3 z8 q2 z7)), .unset] [(.ref b13), (.ref b18)])) (fun t k => XS.aload X27.here hx rfl (hb hby at_87) rfl rfl k) ?_
  obtain ⟨cq29, kq29, q29a, q29b, q29c⟩ := isOf hZ e27 q22_0
  obtain ⟨_, _, ⟨T29, L29, k29, n29⟩, -, X29, ⟨Lc29, hQ29, l29, y29, z29⟩, st29⟩ := X27.virtualBack hx (y := (⟨"com/example/tacit_quorum/tacitquorum/server/Vote", "isAheadOf", "(Lcom/example/tacit_quorum/tacitquorum/server/Vote;)Z"⟩ : MethodName)) (z := (⟨"com/example/tacit_quorum/tacitquorum/server/Vote", "isAheadOf", "(Lcom/example/tacit_quorum/tacitquorum/server/Vote;)Z"⟩ : MethodName)) hown (mvT hZ (hw _ (ow 15 rfl))) (mvT hZ (hw _ (ow 16 rfl))) (notFace_of_selects (args := #[]) (mvT hZ (hw _ (ow 18 rfl)))) (mvT hZ (hw _ (ow 18 rfl))) (mvT hZ (hw _ (ow 17 rfl))) (by decide) (backOf (W := 0) (rm3 l Z a0 hw [] b18 b13 z8 q3 z7 q2 T22.heap n0 sz26 q22_3 c24 q22_2 c25) hZ (hw _ (ow 19 rfl)) (hw _ (ow 2 rfl)) (by decide) (by decide)) q29a q29c (g := (mkF m 89 #[.val (.int p1), .val (.long q2), .second, .val (.long q3), .second, .val (.long q4), .second, .val (.long q5), .second, .val (.int p6), .val (.int (p6 &&& (3 : Int32))), .val (.long z7), .second, .val (.long z8), .second, .val (.ref b13), .val (.ref b18), .val (.int (own_f3 q3 z8 q2 z7)), .unset] [(.ref b13), (.ref b18)])) rfl (by rw [hml]; rfl) (Steps.refl _) (argsL := [(.ref b13)]) (rest := []) (lenOf pd_1 rfl) rfl (by show 2 * 0 + _ ≤ _; exact Nat.le_of_eq rfl) (hb hby at_89) (fun _ _ => ⟨rfl, e27, (by decide : 2 + 0 ≤ _), (by decide : 6 + 0 ≤ _)⟩)
  dsimp only [Pt.U, Pt.locs, Pt.cells, Pt.slots] at X29 l29 y29 z29 st29 hQ29
  subst l29 y29 z29
  obtain ⟨rfl, N29q, e29⟩ := hQ29
  have N29 := Fr.app N27 N29q
  refine own_pre (B := T29.setTop (mkF m 92 #[.val (.int p1), .val (.long q2), .second, .val (.long q3), .second, .val (.long q4), .second, .val (.long q5), .second, .val (.int p6), .val (.int (p6 &&& (3 : Int32))), .val (.long z7), .second, .val (.long z8), .second, .val (.ref b13), .val (.ref b18), .val (.int (own_f3 q3 z8 q2 z7)), .unset] [(.int (own_f3 z8 q3 z7 q2))])) (fun t k => st29.trans k) ?_
  refine own_pre (B := T29.setTop (mkF m 94 #[.val (.int p1), .val (.long q2), .second, .val (.long q3), .second, .val (.long q4), .second, .val (.long q5), .second, .val (.int p6), .val (.int (p6 &&& (3 : Int32))), .val (.long z7), .second, .val (.long z8), .second, .val (.ref b13), .val (.ref b18), .val (.int (own_f3 q3 z8 q2 z7)), .val (.int (own_f3 z8 q3 z7 q2))] [])) (fun t k => XS.istore X29.here hx rfl (hb hby at_92) rfl (l' := #[.val (.int p1), .val (.long q2), .second, .val (.long q3), .second, .val (.long q4), .second, .val (.long q5), .second, .val (.int p6), .val (.int (p6 &&& (3 : Int32))), .val (.long z7), .second, .val (.long z8), .second, .val (.ref b13), .val (.ref b18), .val (.int (own_f3 q3 z8 q2 z7)), .val (.int (own_f3 z8 q3 z7 q2))]) rfl k) ?_
  refine own_pre (B := T29.setTop (mkF m 96 #[.val (.int p1), .val (.long q2), .second, .val (.long q3), .second, .val (.long q4), .second, .val (.long q5), .second, .val (.int p6), .val (.int (p6 &&& (3 : Int32))), .val (.long z7), .second, .val (.long z8), .second, .val (.ref b13), .val (.ref b18), .val (.int (own_f3 q3 z8 q2 z7)), .val (.int (own_f3 z8 q3 z7 q2))] [(.int (own_f3 q3 z8 q2 z7))])) (fun t k => XS.iload X29.here hx rfl (hb hby at_94) rfl k) ?_
  refine own_pre (B := T29.setTop (mkF m 97 #[.val (.int p1), .val (.long q2), .second, .val (.long q3), .second, .val (.long q4), .second, .val (.long q5), .second, .val (.int p6), .val (.int (p6 &&& (3 : Int32))), .val (.long z7), .second, .val (.long z8), .second, .val (.ref b13), .val (.ref b18), .val (.int (own_f3 q3 z8 q2 z7)), .val (.int (own_f3 z8 q3 z7 q2))] [(.long q3), (.int (own_f3 q3 z8 q2 z7))])) (fun t k => XS.lloadN X29.here hx rfl (hb hby at_96) rfl k) ?_
  refine own_pre (B := T29.setTop (mkF m 98 #[.val (.int p1), .val (.long q2), .second, .val (.long q3), .second, .val (.long q4), .second, .val (.long q5), .second, .val (.int p6), .val (.int (p6 &&& (3 : Int32))), .val (.long z7), .second, .val (.long z8), .second, .val (.ref b13), .val (.ref b18), .val (.int (own_f3 q3 z8 q2 z7)), .val (.int (own_f3 z8 q3 z7 q2))] [(.long q2), (.long q3), (.int (own_f3 q3 z8 q2 z7))])) (fun t k => XS.lloadN X29.here hx rfl (hb hby at_97) rfl k) ?_
  refine own_pre (B := T29.setTop (mkF m 100 #[.val (.int p1), .val (.long q2), .second, .val (.long q3), .second, .val (.long q4), .second, .val (.long q5), .second, .val (.int p6), .val (.int (p6 &&& (3 : Int32))), .val (.long z7), .second, .val (.long z8), .second, .val (.ref b13), .val (.ref b18), .val (.int (own_f3 q3 z8 q2 z7)), .val (.int (own_f3 z8 q3 z7 q2))] [(.long z8), (.long q2), (.long q3), (.int (own_f3 q3 z8 q2 z7))])) (fun t k => XS.lload X29.here hx rfl (hb hby at_98) rfl k) ?_
  refine own_pre (B := T29.setTop (mkF m 102 #[.val (.int p1), .val (.long q2), .second, .val (.long q3), .second, .val (.long q4), .second, .val (.long q5), .second, .val (.int p6), .val (.int (p6 &&& (3 : Int32))), .val (.long z7), .second, .val (.long z8), .second, .val (.ref b13), .val (.ref b18), .val (.int (own_f3 q3 z8 q2 z7)), .val (.int (own_f3 z8 q3 z7 q2))] [(.long z7), (.long z8), (.long q2), (.long q3), (.int (own_f3 q3 z8 q2 z7))])) (fun t k => XS.lload X29.here hx rfl (hb hby at_100) rfl k) ?_
  obtain ⟨_, _, ⟨T30, L30, k30, n30⟩, -, X30, ⟨Lc30, hQ30, l30, y30, z30⟩, st30⟩ := Jvm.LawKit.callS X29 hx (y := (⟨"com/example/tacit_quorum/tacitquorum/server/VoteIsAheadOfPinLaw", "expected", "(JJJJ)Z"⟩ : MethodName)) hown (mvT hZ (hw _ (ow 20 rfl))) (mvT hZ (hw _ (ow 21 rfl))) (mvT hZ (hw _ (ow 22 rfl))) (mvT hZ (hw _ (ow 23 rfl))) (by decide) (backOf (W := 1) (rm4 l Z a0 hw [] q3 q2 z8 z7 T22.heap n0 sz26 ) hZ (hw _ (ow 23 rfl)) (hw _ (ow 22 rfl)) (by decide) (by decide)) (g := (mkF m 102 #[.val (.int p1), .val (.long q2), .second, .val (.long q3), .second, .val (.long q4), .second, .val (.long q5), .second, .val (.int p6), .val (.int (p6 &&& (3 : Int32))), .val (.long z7), .second, .val (.long z8), .second, .val (.ref b13), .val (.ref b18), .val (.int (own_f3 q3 z8 q2 z7)), .val (.int (own_f3 z8 q3 z7 q2))] [(.long z7), (.long z8), (.long q2), (.long q3), (.int (own_f3 q3 z8 q2 z7))])) rfl (by rw [hml]; rfl) (argsL := [(.long q3), (.long q2), (.long z8), (.long z7)]) (rest := [(.int (own_f3 q3 z8 q2 z7))]) (lenOf pd_2 rfl) rfl (by show 2 * 0 + _ ≤ _; exact Nat.le_of_eq rfl) (hb hby at_102) (fun _ _ => ⟨rfl, e29, (by decide : 2 + 0 ≤ _), (by decide : 6 + 0 ≤ _)⟩)
  dsimp only [Pt.U, Pt.locs, Pt.cells, Pt.slots] at X30 l30 y30 z30 st30 hQ30
  subst l30 y30 z30
  obtain ⟨rfl, N30q, e30⟩ := hQ30
  have N30 := Fr.app N29 N30q
  refine own_pre (B := T30.setTop (mkF m 105 #[.val (.int p1), .val (.long q2), .second, .val (.long q3), .second, .val (.long q4), .second, .val (.long q5), .second, .val (.int p6), .val (.int (p6 &&& (3 : Int32))), .val (.long z7), .second, .val (.long z8), .second, .val (.ref b13), .val (.ref b18), .val (.int (own_f3 q3 z8 q2 z7)), .val (.int (own_f3 z8 q3 z7 q2))] [(.int (own_f4 q3 q2 z8 z7)), (.int (own_f3 q3 z8 q2 z7))])) (fun t k => st30 t k) ?_
  refine own_pre (B := T30.setTop (mkF m 108 #[.val (.int p1), .val (.long q2), .second, .val (.long q3), .second, .val (.long q4), .second, .val (.long q5), .second, .val (.int p6), .val (.int (p6 &&& (3 : Int32))), .val (.long z7), .second, .val (.long z8), .second, .val (.ref b13), .val (.ref b18), .val (.int (own_f3 q3 z8 q2 z7)), .val (.int (own_f3 z8 q3 z7 q2))] [])) (fun t k => XS.icmpNo X30.here hx rfl (hb hby at_105) rfl (teq (own_eq _ _ _ _)).2 k) ?_
  refine own_pre (B := T30.setTop (mkF m 110 #[.val (.int p1), .val (.long q2), .second, .val (.long q3), .second, .val (.long q4), .second, .val (.long q5), .second, .val (.int p6), .val (.int (p6 &&& (3 : Int32))), .val (.long z7), .second, .val (.long z8), .second, .val (.ref b13), .val (.ref b18), .val (.int (own_f3 q3 z8 q2 z7)), .val (.int (own_f3 z8 q3 z7 q2))] [(.int (own_f3 z8 q3 z7 q2))])) (fun t k => XS.iload X30.here hx rfl (hb hby at_108) rfl k) ?_
  refine own_pre (B := T30.setTop (mkF m 112 #[.val (.int p1), .val (.long q2), .second, .val (.long q3), .second, .val (.long q4), .second, .val (.long q5), .second, .val (.int p6), .val (.int (p6 &&& (3 : Int32))), .val (.long z7), .second, .val (.long z8), .second, .val (.ref b13), .val (.ref b18), .val (.int (own_f3 q3 z8 q2 z7)), .val (.int (own_f3 z8 q3 z7 q2))] [(.long z8), (.int (own_f3 z8 q3 z7 q2))])) (fun t k => XS.lload X30.here hx rfl (hb hby at_110) rfl k) ?_
  refine own_pre (B := T30.setTop (mkF m 114 #[.val (.int p1), .val (.long q2), .second, .val (.long q3), .second, .val (.long q4), .second, .val (.long q5), .second, .val (.int p6), .val (.int (p6 &&& (3 : Int32))), .val (.long z7), .second, .val (.long z8), .second, .val (.ref b13), .val (.ref b18), .val (.int (own_f3 q3 z8 q2 z7)), .val (.int (own_f3 z8 q3 z7 q2))] [(.long z7), (.long z8), (.int (own_f3 z8 q3 z7 q2))])) (fun t k => XS.lload X30.here hx rfl (hb hby at_112) rfl k) ?_
  refine own_pre (B := T30.setTop (mkF m 115 #[.val (.int p1), .val (.long q2), .second, .val (.long q3), .second, .val (.long q4), .second, .val (.long q5), .second, .val (.int p6), .val (.int (p6 &&& (3 : Int32))), .val (.long z7), .second, .val (.long z8), .second, .val (.ref b13), .val (.ref b18), .val (.int (own_f3 q3 z8 q2 z7)), .val (.int (own_f3 z8 q3 z7 q2))] [(.long q3), (.long z7), (.long z8), (.int (own_f3 z8 q3 z7 q2))])) (fun t k => XS.lloadN X30.here hx rfl (hb hby at_114) rfl k) ?_
  refine own_pre (B := T30.setTop (mkF m 116 #[.val (.int p1), .val (.long q2), .second, .val (.long q3), .second, .val (.long q4), .second, .val (.long q5), .second, .val (.int p6), .val (.int (p6 &&& (3 : Int32))), .val (.long z7), .second, .val (.long z8), .second, .val (.ref b13), .val (.ref b18), .val (.int (own_f3 q3 z8 q2 z7)), .val (.int (own_f3 z8 q3 z7 q2))] [(.long q2), (.long q3), (.long z7), (.long z8), (.int (own_f3 z8 q3 z7 q2))])) (fun t k => XS.lloadN X30.here hx rfl (hb hby at_115) rfl k) ?_
  obtain ⟨_, _, ⟨T31, L31, k31, n31⟩, -, X31, ⟨Lc31, hQ31, l31, y31, z31⟩, st31⟩ := Jvm.LawKit.callS X30 hx (y := (⟨"com/example/tacit_quorum/tacitquorum/server/VoteIsAheadOfPinLaw", "expected", "(JJJJ)Z"⟩ : MethodName)) hown (mvT hZ (hw _ (ow 20 rfl))) (mvT hZ (hw _ (ow 21 rfl))) (mvT hZ (hw _ (ow 22 rfl))) (mvT hZ (hw _ (ow 23 rfl))) (by decide) (backOf (W := 1) (rm4 l Z a0 hw [] z8 z7 q3 q2 T22.heap n0 sz26 ) hZ (hw _ (ow 23 rfl)) (hw _ (ow 22 rfl)) (by decide) (by decide)) (g := (mkF m 116 #[.val (.int p1), .val (.long q2), .second, .val (.long q3), .second, .val (.long q4), .second, .val (.long q5), .second, .val (.int p6), .val (.int (p6 &&& (3 : Int32))), .val (.long z7), .second, .val (.long z8), .second, .val (.ref b13), .val (.ref b18), .val (.int (own_f3 q3 z8 q2 z7)), .val (.int (own_f3 z8 q3 z7 q2))] [(.long q2), (.long q3), (.long z7), (.long z8), (.int (own_f3 z8 q3 z7 q2))])) rfl (by rw [hml]; rfl) (argsL := [(.long z8), (.long z7), (.long q3), (.long q2)]) (rest := [(.int (own_f3 z8 q3 z7 q2))]) (lenOf pd_2 rfl) rfl (by show 2 * 0 + _ ≤ _; exact Nat.le_of_eq rfl) (hb hby at_116) (fun _ _ => ⟨rfl, e30, (by decide : 2 + 0 ≤ _), (by decide : 6 + 0 ≤ _)⟩)
  dsimp only [Pt.U, Pt.locs, Pt.cells, Pt.slots] at X31 l31 y31 z31 st31 hQ31
  subst l31 y31 z31
  obtain ⟨rfl, N31q, e31⟩ := hQ31
  have N31 := Fr.app N30 N31q
  refine own_pre (B := T31.setTop (mkF m 119 #[.val (.int p1), .val (.long q2), .second, .val (.long q3), .second, .val (.long q4), .second, .val (.long q5), .second, .val (.int p6), .val (.int (p6 &&& (3 : Int32))), .val (.long z7), .second, .val (.long z8), .second, .val (.ref b13), .val (.ref b18), .val (.int (own_f3 q3 z8 q2 z7)), .val (.int (own_f3 z8 q3 z7 q2))] [(.int (own_f4 z8 z7 q3 q2)), (.int (own_f3 z8 q3 z7 q2))])) (fun t k => st31 t k) ?_
  refine own_pre (B := T31.setTop (mkF m 122 #[.val (.int p1), .val (.long q2), .second, .val (.long q3), .second, .val (.long q4), .second, .val (.long q5), .second, .val (.int p6), .val (.int (p6 &&& (3 : Int32))), .val (.long z7), .second, .val (.long z8), .second, .val (.ref b13), .val (.ref b18), .val (.int (own_f3 q3 z8 q2 z7)), .val (.int (own_f3 z8 q3 z7 q2))] [])) (fun t k => XS.icmpNo X31.here hx rfl (hb hby at_119) rfl (teq (own_eq _ _ _ _)).2 k) ?_
  refine own_pre (B := T31.setTop (mkF m 123 #[.val (.int p1), .val (.long q2), .second, .val (.long q3), .second, .val (.long q4), .second, .val (.long q5), .second, .val (.int p6), .val (.int (p6 &&& (3 : Int32))), .val (.long z7), .second, .val (.long z8), .second, .val (.ref b13), .val (.ref b18), .val (.int (own_f3 q3 z8 q2 z7)), .val (.int (own_f3 z8 q3 z7 q2))] [(.int (1 : Int32))])) (fun t k => XS.iconst X31.here hx rfl (hb hby at_122) k) ?_
  refine own_pre (B := T31.setTop (mkF m 127 #[.val (.int p1), .val (.long q2), .second, .val (.long q3), .second, .val (.long q4), .second, .val (.long q5), .second, .val (.int p6), .val (.int (p6 &&& (3 : Int32))), .val (.long z7), .second, .val (.long z8), .second, .val (.ref b13), .val (.ref b18), .val (.int (own_f3 q3 z8 q2 z7)), .val (.int (own_f3 z8 q3 z7 q2))] [(.int (1 : Int32))])) (fun t k => XS.goto X31.here hx rfl (pc0 := 123) (pc' := 127) rfl (hb hby at_123) (by decide) (by decide) k) ?_
  obtain ⟨fsr32, hrr32, hrunr32, hendedr32, hWr32, hsamer32⟩ := X31.leave (v := some (.int (1 : Int32))) (fun h => by rw [Bd.returns] at h; cases h)
  refine ⟨_, _, (retN X31 hx (t := .boolean) Bd.returns (by simp) (hb hby at_127) hrr32), hrunr32, hendedr32, _, _, rfl, ?_, ⟨_, rfl⟩, hWr32, hsamer32.mono (by decide) (by decide)⟩
  show Q0 Z p1 q2 q3 q4 q5 p6 h0 n0 _ T31.heap _
  rw [e31]
  exact ⟨rfl, N31⟩
set_option maxRecDepth 65536 in
set_option maxHeartbeats 40000000 in
theorem comes_1 {Post : Tables → Env → Array Value → State → Outcome → State → Prop} (hpost : ∀ tb e args s v u, (limb_1_1.after args s (.returned v) u = true ∧ limb_1_2.after args s (.returned v) u = true ∧ True) → FrameEnd s (.returned v) u (Jvm.fieldLocs frame_1_writes args s ++ Jvm.arrayLocs frame_1_arrays args s ++ Jvm.staticLocs frame_1_statics s) 16 128 → Post tb e args s (.returned v) u) :
    ArmFor flags0 classFile x code maxLocals ret World_1 tables_1 room_1 Calls_1 rest_1 Pre_1 Post := by
  intro l hfl _ _ p e ha hc hk s m args below hf hA hF happ hP
  obtain ⟨hcalls, hrest, hpre⟩ := hP
  obtain ⟨-, -, -, hnamed, -, -, -, hat⟩ := (Spec.applies_iff hf).mp happ
  obtain ⟨hg, hn⟩ := and_e (Cond.before_iff.mp (show (Jvm.Cond.and given_1 narrow_1).before args s = true from hpre))
  obtain ⟨g1, g2⟩ := and_e hg
  obtain ⟨g3, g4⟩ := and_e g2
  obtain ⟨g5, g6⟩ := and_e g4
  obtain ⟨g7, g8⟩ := and_e g6
  obtain ⟨g9, g10⟩ := and_e g8
  obtain ⟨g11, g12⟩ := and_e g10
  obtain ⟨w0, w1, w2, w3, w4, w5, rfl⟩ : ∃ w0 w1 w2 w3 w4 w5 : Value, args = #[w0, w1, w2, w3, w4, w5] := by
    have hs : args.size = 6 := by simpa [Cond.value, given_1] using g1
    obtain ⟨L⟩ := args
    match L, hs with
    | [w0, w1, w2, w3, w4, w5], _ => exact ⟨w0, w1, w2, w3, w4, w5, rfl⟩
  have hw := fun d (hd : d ∈ tables_1) => atoms_spec (ws := Jvm.Cond.code x code maxLocals ret :: tables_1) hat d (List.mem_cons_of_mem _ hd)
  have hfit : Fit s := fun {y c} hc i hi => by
    obtain ⟨ha, rfl⟩ := Array.getElem?_eq_some_iff.mp hc
    have q := List.all_eq_true.mp ((Array.all_eq_true_iff_forall_mem.mp hF) _ (Array.getElem_mem ha)) i (List.mem_range.mpr hi)
    simpa [Array.getElem?_eq_getElem hi] using q
  obtain ⟨i0, ei0⟩ := is_v g3
  obtain rfl : w0 = (.int i0) := Option.some.inj ei0
  obtain ⟨i1, ei1⟩ := isL_v g5
  obtain rfl : w1 = (.long i1) := Option.some.inj ei1
  obtain ⟨i2, ei2⟩ := isL_v g7
  obtain rfl : w2 = (.long i2) := Option.some.inj ei2
  obtain ⟨i3, ei3⟩ := isL_v g9
  obtain rfl : w3 = (.long i3) := Option.some.inj ei3
  obtain ⟨i4, ei4⟩ := isL_v g11
  obtain rfl : w4 = (.long i4) := Option.some.inj ei4
  obtain ⟨i5, ei5⟩ := is_v g12
  obtain rfl : w5 = (.int i5) := Option.some.inj ei5
  obtain ⟨n, o, h1, h2, h3, _, L, rfl, ⟨rfl, N⟩, hq⟩ := rm0 l s _ hw tables_1 i0 i1 i2 i3 i4 i5  s.heap s.heap.size (Nat.le_refl _)  p e ha hc hk s m _ below hf ((Spec.applies_iff_loose hf).mp happ).1 ⟨rfl, State.Warmed39.refl s, rfl⟩ trivial
  refine ⟨n, _, h1, h2, h3, hpost _ _ _ _ _ _ ⟨Cond.after_iff.mpr rfl, Cond.after_iff.mpr (eq_i res_at (Term.int_eval (1)) rfl), trivial⟩ ⟨hq.1, hq.2.1, (hq.2.2.sift fun y hy => Or.inr (N y hy)).mono (by decide) (by decide)⟩⟩
theorem main_1_1 : Claimed_1_1 := comes_1 fun _ _ _ _ _ _ h hF => ⟨h.1, hF⟩
theorem main_1_2 : Claimed_1_2 := comes_1 fun _ _ _ _ _ _ h hF => ⟨h.2.1, hF⟩
end Jvm.Pilot.@@N@@
namespace Jvm.Pilot.@@N@@
open Jvm Jvm.ClassFile Sem Op Lib Jvm.Free Jvm.Stand Jvm.Pilot.@@N@@.Jvm.D
/-! MADE BY PROGRAM (witnessworld.py) out of the Statement's table words and the real class files: 9 classes; the members and pool entries that the words name. The judged class is class 1, her method 2. -/
namespace start1
open Jvm.ClassFile
def u (s : String) : CpInfo := .utf8 (stringToUtf16 s)
/-- a pool by its gaps: so many unusable entries, then the entry; so many at the end -/
def gap : Nat → List CpInfo → List CpInfo
  | 0, r => r
  | n + 1, r => .unusable :: gap n r
def poolList (es : List (Nat × CpInfo)) (last : Nat) : List CpInfo := es.foldr (fun e r => gap e.1 (e.2 :: r)) (gap last [])
def pool (es : List (Nat × CpInfo)) (last : Nat) : Array CpInfo := ⟨poolList es last⟩
def fileOf (pool : Array CpInfo) (this : Nat) (attrs : Array Attribute := #[]) (ms : Array MethodInfo := #[]) (fl : Nat := 33) (sup : Nat := 0) (ifs : Array Nat := #[]) (fds : Array FieldInfo := #[]) : ClassFile where
  minorVersion := 0
  majorVersion := 65
  constantPool := pool
  accessFlags := fl
  thisClass := this
  superClass := sup
  interfaces := ifs
  fields := fds
  methods := ms
  attributes := attrs
def plain (name : String) (sup : Option ClassId) : Class where
  name := name
  kind := .ordinary
  loader := none
  accessFlags := 33
  super := sup
  interfaces := #[]
  cf := none
  fields := #[]
  methods := #[]
  instanceTypes := #[]
  staticTypes := #[]
  resolved := #[]
  callSites := []
  init := .initialized
  statics := none
  mirror := none

def pool0 : Array CpInfo := pool [(5, u "<init>"), (0, u "()V"), (1, .class_ 10), (1, u "java/lang/Object")] 113

def k0c0 : Code := { maxStack := 0, maxLocals := 1, code := object_method_1_code, exceptionTable := #[], attributes := #[] }
def k0m0 : Method := { name := "<init>", desc := "()V", sig := { parameters := [], returnType := none }, accessFlags := 1, code := some k0c0 }
/-- java/lang/Object -/
def k0 : Class := { plain "java/lang/Object" none with
  accessFlags := 33
  interfaces := #[]
  cf := some (fileOf pool0 8 #[] #[{ accessFlags := 1, nameIndex := 5, descriptorIndex := 6, attributes := #[] }] 33 0 #[] #[])
  fields := #[]
  methods := #[k0m0]
  instanceTypes := #[]
  staticTypes := #[]
  resolved := Array.replicate 124 none
  statics := none }

def pool1 : Array CpInfo := pool [(2, .class_ 4), (1, u "java/lang/Object"), (0, u "<init>"), (0, u "()V"), (0, .class_ 8), (0, u "com/example/tacit_quorum/tacitquorum/server/Vote"), (0, .methodref 7 10), (0, .nameAndType 5 11), (0, u "(IJJ)V"), (0, .methodref 7 13), (0, .nameAndType 14 15), (0, u "isAheadOf"), (0, u "(Lcom/example/tacit_quorum/tacitquorum/server/Vote;)Z"), (0, .methodref 17 18), (0, .class_ 19), (0, .nameAndType 20 21), (0, u "com/example/tacit_quorum/tacitquorum/server/VoteIsAheadOfPinLaw"), (0, u "expected"), (0, u "(JJJJ)Z"), (3, u "law"), (0, u "(IJJJJI)Z")] 2

def k1m0 : Method := { name := "<init>", desc := "()V", sig := { parameters := [], returnType := none }, accessFlags := 2, code := none }
def k1c1 : Code := { maxStack := 4, maxLocals := 8, code := method_2_code, exceptionTable := #[], attributes := #[] }
def k1m1 : Method := { name := "expected", desc := "(JJJJ)Z", sig := { parameters := [.long, .long, .long, .long], returnType := some .boolean }, accessFlags := 10, code := some k1c1 }
def k1c2 : Code := { maxStack := 9, maxLocals := 19, code := code, exceptionTable := #[], attributes := #[] }
def k1m2 : Method := { name := "law", desc := "(IJJJJI)Z", sig := { parameters := [.int, .long, .long, .long, .long, .int], returnType := some .boolean }, accessFlags := 9, code := some k1c2 }
/-- com/example/tacit_quorum/tacitquorum/server/VoteIsAheadOfPinLaw -/
def k1 : Class := { plain "com/example/tacit_quorum/tacitquorum/server/VoteIsAheadOfPinLaw" (some 0) with
  accessFlags := 49
  interfaces := #[]
  cf := some (fileOf pool1 17 #[] #[{ accessFlags := 2, nameIndex := 5, descriptorIndex := 6, attributes := #[] }, { accessFlags := 10, nameIndex := 20, descriptorIndex := 21, attributes := #[] }, { accessFlags := 9, nameIndex := 25, descriptorIndex := 26, attributes := #[] }] 49 2 #[] #[])
  fields := #[]
  methods := #[k1m0, k1m1, k1m2]
  instanceTypes := #[]
  staticTypes := #[]
  resolved := Array.replicate 29 none
  statics := none }

def pool2 : Array CpInfo := pool [(1, .methodref 2 3), (0, .class_ 4), (0, .nameAndType 5 6), (0, u "java/lang/Object"), (0, u "<init>"), (0, u "()V"), (0, .fieldref 8 9), (0, .class_ 10), (0, .nameAndType 11 12), (0, u "com/example/tacit_quorum/tacitquorum/server/Vote"), (0, u "leader"), (0, u "I"), (0, .fieldref 8 14), (0, .nameAndType 15 16), (0, u "zxid"), (0, u "J"), (0, .fieldref 8 18), (0, .nameAndType 19 16), (0, u "epoch"), (2, u "isAheadOf"), (0, u "(Lcom/example/tacit_quorum/tacitquorum/server/Vote;)Z"), (14, u "(IJJ)V")] 30

def k2c0 : Code := { maxStack := 3, maxLocals := 6, code := prog_48_method_1_code, exceptionTable := #[], attributes := #[] }
def k2m0 : Method := { name := "<init>", desc := "(IJJ)V", sig := { parameters := [.int, .long, .long], returnType := none }, accessFlags := 0, code := some k2c0 }
def k2c1 : Code := { maxStack := 4, maxLocals := 2, code := prog_48_method_6_code, exceptionTable := #[], attributes := #[] }
def k2m1 : Method := { name := "isAheadOf", desc := "(Lcom/example/tacit_quorum/tacitquorum/server/Vote;)Z", sig := { parameters := [(.object "com/example/tacit_quorum/tacitquorum/server/Vote")], returnType := some .boolean }, accessFlags := 0, code := some k2c1 }
/-- com/example/tacit_quorum/tacitquorum/server/Vote -/
def k2 : Class := { plain "com/example/tacit_quorum/tacitquorum/server/Vote" (some 0) with
  accessFlags := 48
  interfaces := #[]
  cf := some (fileOf pool2 8 #[] #[{ accessFlags := 0, nameIndex := 5, descriptorIndex := 38, attributes := #[] }, { accessFlags := 0, nameIndex := 22, descriptorIndex := 23, attributes := #[] }] 48 2 #[] #[{ accessFlags := 18, nameIndex := 11, descriptorIndex := 12, attributes := #[] }, { accessFlags := 18, nameIndex := 15, descriptorIndex := 16, attributes := #[] }, { accessFlags := 18, nameIndex := 19, descriptorIndex := 16, attributes := #[] }])
  fields := #[{ name := "leader", type := .int, accessFlags := 18, slot := 0, constantValue := 0 }, { name := "zxid", type := .long, accessFlags := 18, slot := 1, constantValue := 0 }, { name := "epoch", type := .long, accessFlags := 18, slot := 2, constantValue := 0 }]
  methods := #[k2m0, k2m1]
  instanceTypes := #[.int, .long, .long]
  staticTypes := #[]
  resolved := Array.replicate 69 none
  statics := none }

def pool3 : Array CpInfo := pool [(1, u "java/lang/Cloneable"), (0, .class_ 1), (0, u "java/lang/Object"), (0, .class_ 3)] 3

/-- java/lang/Cloneable -/
def k3 : Class := { plain "java/lang/Cloneable" (some 0) with
  accessFlags := 1537
  interfaces := #[]
  cf := some (fileOf pool3 2 #[] #[] 1537 4 #[] #[])
  fields := #[]
  methods := #[]
  instanceTypes := #[]
  staticTypes := #[]
  resolved := Array.replicate 8 none
  statics := none }

def pool4 : Array CpInfo := pool [(1, u "java/io/Serializable"), (0, .class_ 1), (0, u "java/lang/Object"), (0, .class_ 3)] 3

/-- java/io/Serializable -/
def k4 : Class := { plain "java/io/Serializable" (some 0) with
  accessFlags := 1537
  interfaces := #[]
  cf := some (fileOf pool4 2 #[] #[] 1537 4 #[] #[])
  fields := #[]
  methods := #[]
  instanceTypes := #[]
  staticTypes := #[]
  resolved := Array.replicate 8 none
  statics := none }

/-- the primitive byte -/
def k5 : Class := { plain "byte" none with kind := .primitive 'B', accessFlags := 0x411 }
/-- [B -/
def k6 : Class := { plain "[B" (some 0) with kind := .array 5 .byte, interfaces := #[3, 4], accessFlags := 1041 }

/-- the primitive int -/
def k7 : Class := { plain "int" none with kind := .primitive 'I', accessFlags := 0x411 }
/-- [I -/
def k8 : Class := { plain "[I" (some 0) with kind := .array 7 .int, interfaces := #[3, 4], accessFlags := 1041 }

def heap : Heap := #[]
def classes : Array Class := #[k0, k1, k2, k3, k4, k5, k6, k7, k8]
def interned : List (Array UInt16 × Addr) := []
def slotsUsed : Nat := 0
def theMethod : MethodId := ⟨1, 2⟩
def args0 : Array Value := #[.int 1, .long 5, .long 2, .long 6, .long 2, .int 2]
def aboutOver (below : List Frame) : State where
  vm := { classes := classes, interned := interned.toArray }
  heap := heap
  slotsUsed := slotsUsed
  threads := #[{ frames := .invoking theMethod args0 :: below }]
def below0 : List Frame := [.native { method := ⟨0, 0⟩, args := #[] }]
def about1 : State := aboutOver below0
def p0 : Program := .bare "" "" ""
def e0 : Env := launch0.env 0 0 0
theorem w_frames : about1.frames = Frame.invoking theMethod args0 :: below0 := rfl
set_option maxRecDepth 65536 in
theorem w_args : argsFit about1.vm theMethod args0 = true := by decide +kernel
set_option maxRecDepth 65536 in
theorem w_heap : heapFits about1 = true := by decide +kernel
set_option maxRecDepth 65536 in
theorem w_runnable : about1.curStatus? = some .runnable := by decide +kernel
set_option maxRecDepth 65536 in
theorem w_alone : about1.alone = true := by decide +kernel
set_option maxRecDepth 65536 in
theorem w_named : about1.methodNamed? x = some theMethod := by decide +kernel
set_option maxRecDepth 65536 in
theorem w_hears : about1.hears theMethod below0 = true := by decide +kernel
set_option maxRecDepth 65536 in
theorem w_ripe : about1.ripe theMethod args0 below0 = true := by decide +kernel
theorem w_running : about1.status = .running := rfl
set_option maxRecDepth 65536 in
theorem w_room : about1.hasRoom e0.platform room_1 = true :=
  launch0.hasRoom_least _ room_1 (by decide +kernel) (by decide +kernel) (by decide +kernel) (by decide +kernel) (by decide +kernel) (by decide +kernel)
theorem allAtoms_all (ts : List Jvm.Cond) (a : Array Jvm.Value) (st : Jvm.State) : (allAtoms ts).before a st = ts.all (fun c => c.before a st) := by
  induction ts with
  | nil => rfl
  | cons c t ih =>
    show (Jvm.Cond.and c (allAtoms t)).before a st = _
    rw [Jvm.Cond.before_and, ih, List.all_cons]
def words1 : List Jvm.Cond := Jvm.Cond.code x code maxLocals ret :: tables_1
/-- a 'code' word, met by the world's own term for the bytes: nothing is compared byte by byte -/
theorem code_word {y : MethodName} {bytes : ByteArray} {mx : Nat} {rt : Option FieldType} {a : Array Value} {s : State} {m : MethodId} {meth : Method} {c : Code} (h1 : s.methodNamed? y = some m) (h2 : s.vm.method? m = some meth) (h3 : meth.code = some c) (h4 : c.code = bytes)
    (h5 : (c.maxLocals == mx && c.exceptionTable.isEmpty && decide (c.maxStack ≤ mostOperands) && decide (meth.sig.returnType = rt) && !meth.locks && decide (parseMethodDescriptor y.desc = some meth.sig)) = true) : (Jvm.Cond.code y bytes mx rt).before a s = true := by
  simp only [Bool.and_eq_true, beq_iff_eq, Bool.not_eq_true', decide_eq_true_eq] at h5
  obtain ⟨⟨⟨⟨⟨g1, g2⟩, g3⟩, g4⟩, g5⟩, g6⟩ := h5
  simp [Cond.before, Cond.holds, Cond.value, h1, h2, h3, h4, g1, g2, g3, g4, g5, g6]
def isCode : Jvm.Cond → Bool
  | .code _ _ _ _ => true
  | _ => false
theorem all_split {L : List Jvm.Cond} {P : Jvm.Cond → Bool} (h1 : L.all (fun c => isCode c || P c) = true) (h2 : ∀ c ∈ L.filter isCode, P c = true) : L.all P = true := by
  refine List.all_eq_true.mpr fun c hc => ?_
  have h := List.all_eq_true.mp h1 c hc
  rcases Bool.eq_false_or_eq_true (isCode c) with hi | hi
  · exact h2 c (List.mem_filter.mpr ⟨hc, hi⟩)
  · simpa [hi] using h
set_option maxRecDepth 65536 in
theorem w_c0 : (Jvm.Cond.code x code maxLocals ret).before args0 about1 = true := code_word (m := ⟨1, 2⟩) (meth := k1m2) (c := k1c2) (by decide +kernel) rfl rfl rfl (by decide +kernel)
set_option maxRecDepth 65536 in
theorem w_c1 : (Jvm.Cond.code ({ cls := "com/example/tacit_quorum/tacitquorum/server/Vote", name := "<init>", desc := "(IJJ)V" } : Jvm.MethodName) prog_48_method_1_code (6 : Nat) (Option.none : Option Jvm.ClassFile.FieldType)).before args0 about1 = true := code_word (m := ⟨2, 0⟩) (meth := k2m0) (c := k2c0) (by decide +kernel) rfl rfl rfl (by decide +kernel)
set_option maxRecDepth 65536 in
theorem w_c2 : (Jvm.Cond.code ({ cls := "java/lang/Object", name := "<init>", desc := "()V" } : Jvm.MethodName) object_method_1_code (1 : Nat) (Option.none : Option Jvm.ClassFile.FieldType)).before args0 about1 = true := code_word (m := ⟨0, 0⟩) (meth := k0m0) (c := k0c0) (by decide +kernel) rfl rfl rfl (by decide +kernel)
set_option maxRecDepth 65536 in
theorem w_c3 : (Jvm.Cond.code ({ cls := "com/example/tacit_quorum/tacitquorum/server/Vote", name := "isAheadOf", desc := "(Lcom/example/tacit_quorum/tacitquorum/server/Vote;)Z" } : Jvm.MethodName) prog_48_method_6_code (2 : Nat) (Option.some Jvm.ClassFile.FieldType.boolean)).before args0 about1 = true := code_word (m := ⟨2, 1⟩) (meth := k2m1) (c := k2c1) (by decide +kernel) rfl rfl rfl (by decide +kernel)
set_option maxRecDepth 65536 in
theorem w_c4 : (Jvm.Cond.code ({ cls := "com/example/tacit_quorum/tacitquorum/server/VoteIsAheadOfPinLaw", name := "expected", desc := "(JJJJ)Z" } : Jvm.MethodName) method_2_code (8 : Nat) (Option.some Jvm.ClassFile.FieldType.boolean)).before args0 about1 = true := code_word (m := ⟨1, 1⟩) (meth := k1m1) (c := k1c1) (by decide +kernel) rfl rfl rfl (by decide +kernel)
def codes1 : List Jvm.Cond := [Jvm.Cond.code x code maxLocals ret, Jvm.Cond.code ({ cls := "com/example/tacit_quorum/tacitquorum/server/Vote", name := "<init>", desc := "(IJJ)V" } : Jvm.MethodName) prog_48_method_1_code (6 : Nat) (Option.none : Option Jvm.ClassFile.FieldType), Jvm.Cond.code ({ cls := "java/lang/Object", name := "<init>", desc := "()V" } : Jvm.MethodName) object_method_1_code (1 : Nat) (Option.none : Option Jvm.ClassFile.FieldType), Jvm.Cond.code ({ cls := "com/example/tacit_quorum/tacitquorum/server/Vote", name := "isAheadOf", desc := "(Lcom/example/tacit_quorum/tacitquorum/server/Vote;)Z" } : Jvm.MethodName) prog_48_method_6_code (2 : Nat) (Option.some Jvm.ClassFile.FieldType.boolean), Jvm.Cond.code ({ cls := "com/example/tacit_quorum/tacitquorum/server/VoteIsAheadOfPinLaw", name := "expected", desc := "(JJJJ)Z" } : Jvm.MethodName) method_2_code (8 : Nat) (Option.some Jvm.ClassFile.FieldType.boolean)]
set_option maxRecDepth 65536 in
theorem codes_eq : words1.filter isCode = codes1 := rfl
theorem w_codes : ∀ c ∈ words1.filter isCode, c.before args0 about1 = true := by
  rw [codes_eq]
  intro c hc
  simp only [codes1, List.mem_cons, List.not_mem_nil, or_false] at hc
  rcases hc with rfl | rfl | rfl | rfl | rfl
  · exact w_c0
  · exact w_c1
  · exact w_c2
  · exact w_c3
  · exact w_c4
set_option maxRecDepth 65536 in
theorem w_t1 : (words1.take 24).all (fun c => isCode c || c.before args0 about1) = true := by decide +kernel
set_option maxRecDepth 65536 in
theorem w_t2 : (words1.drop 24).all (fun c => isCode c || c.before args0 about1) = true := by decide +kernel
theorem w_tables : (allAtoms (Jvm.Cond.code x code maxLocals ret :: tables_1)).before args0 about1 = true := by
  rw [allAtoms_all]
  show words1.all (fun c => c.before args0 about1) = true
  refine all_split ?_ w_codes
  rw [← List.take_append_drop 24 words1, List.all_append, w_t1, w_t2]
  rfl
set_option maxRecDepth 65536 in
theorem w_case : (Jvm.Cond.and given_1 narrow_1).before args0 about1 = true := by decide +kernel
theorem w_applies : (headSpec (Jvm.Cond.code x code maxLocals ret :: tables_1) room_1).applies x e0.platform about1 = true :=
  (Spec.applies_iff w_frames).mpr ⟨w_running, w_runnable, w_alone, w_named, w_hears, w_ripe, w_room, w_tables⟩
theorem atStart : AtStart classFile x code maxLocals ret World_1 tables_1 room_1 Calls_1 rest_1 Pre_1 launch0 p0 e0 about1 theMethod args0 below0 :=
  ⟨lists_1, trivial, launch0.admits_env _ _ _, launch0.least_env, fairChoices_fair.cas, fairChoices_fair.clock, w_frames, w_args, w_heap, w_applies, trivial, trivial, w_case⟩
end start1
theorem witness_1 : WitnessClaimed_1 := ⟨start1.p0, start1.e0, start1.about1, start1.theMethod, start1.args0, start1.below0, start1.atStart⟩
end Jvm.Pilot.@@N@@
