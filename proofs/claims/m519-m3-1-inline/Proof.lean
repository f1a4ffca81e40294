import JvmDerived
import JvmDerived.Pilot.@@N@@Statement
import JvmDerived.Pilot.@@N@@Code
set_option linter.unusedVariables false
set_option linter.unusedSimpArgs false
@@BLOCK:SetKit.lean.txt@@
namespace Jvm.RoadKit
open Sem ClassFile Op Lib Jvm.Stand Jvm.Free Jvm.LawKit
section New
variable {p : Program} {l : Launch} {e : Env} {R : Room} {s : State} {m : MethodId} {args : Array Value} {below : List Frame} {meth : Method} {c : Code} {T : State} {locs : List Loc} {cells slots : Nat}
theorem retI (X : Stand p l e R s m args below meth c T locs cells slots) (hx : p.tables.exec = Jvm.exec) {pc : Nat} {Ls : Array Slot} {z : Int32} {rest : List Value} (hret : meth.sig.returnType = some .int) (hd : decode c.code pc = .ok (.ireturn, 1)) {fs : List Frame}
    (hl : ∀ (f : JFrame) (acts : List Action), f.method = m → f.locked = none → f.entered = [] → (doReturn e (T.setTop f) acts (some (.int z))).1 = T.setFrames fs) : Steps p.tables e below (T.setTop (mkF m pc Ls (.int z :: rest))) (T.setFrames fs) := by
  have hm' : T.vm.method? m = some meth := X.method'
  have hn : narrow .int (.int z) = .int z := rfl
  show Steps p.tables e below (T.setTop { method := m, pc := pc, locals := Ls, stack := _ :: rest, locked := none }) _
  jvm_step X.here [X.here.top, hx, hd, hm', hret, hn]
  first | (intro acts; rw [hl _ acts rfl rfl rfl]) | rw [hl _ _ rfl rfl rfl]
  exact Steps.refl _
end New
end Jvm.RoadKit
namespace Jvm.Pilot.@@N@@
open Jvm Jvm.ClassFile Sem Op Lib Jvm.Free Jvm.Stand Jvm.LawKit Jvm.RoadKit Bundle Jvm.Pilot.@@N@@.Jvm.D
/-! the goal of a walk, gone through forwards: from the state A the run comes to an end that answers R -/
def own_G (tb : Tables) (e : Env) (below : List Frame) (R : State → Outcome → Prop) (A : State) : Prop := ∃ t o, Steps tb e below A t ∧ t.status = .running ∧ Ended t below o ∧ R t o
theorem own_in {tb : Tables} {e : Env} {below : List Frame} {R : State → Outcome → Prop} {A : State} (h : own_G tb e below R A) : ∃ t o, Steps tb e below A t ∧ t.status = .running ∧ Ended t below o ∧ R t o := h
theorem own_pre {tb : Tables} {e : Env} {below : List Frame} {R : State → Outcome → Prop} {A B : State} (k : ∀ t, Steps tb e below B t → Steps tb e below A t) (h : own_G tb e below R B) : own_G tb e below R A := by
  obtain ⟨t, o, h1, h2⟩ := h
  exact ⟨t, o, k t h1, h2⟩
/-! a part of a walk: from A the run comes to some state that answers P -/
def own_J (tb : Tables) (e : Env) (below : List Frame) (P : State → Prop) (A : State) : Prop := ∃ B, P B ∧ ∀ t, Steps tb e below B t → Steps tb e below A t
theorem own_preJ {tb : Tables} {e : Env} {below : List Frame} {P : State → Prop} {A B : State} (k : ∀ t, Steps tb e below B t → Steps tb e below A t) (h : own_J tb e below P B) : own_J tb e below P A := by
  obtain ⟨C, h1, h2⟩ := h
  exact ⟨C, h1, fun t q => k t (h2 t q)⟩
theorem own_more {p : Program} {l : Launch} {e : Env} {R : Room} {s : State} {m : MethodId} {args : Array Value} {below : List Frame} {meth : Method} {c : Code} {T : State} {locs : List Loc} {cells slots cells' slots' : Nat} (X : Stand p l e R s m args below meth c T locs cells slots) (h : cells ≤ cells') (h' : slots ≤ slots') : Stand p l e R s m args below meth c T locs cells' slots' :=
  { X with same := X.same.mono h h' }
theorem own_hide {p : Program} {l : Launch} {e : Env} {R : Room} {s : State} {m : MethodId} {args : Array Value} {below : List Frame} {meth : Method} {c : Code} {T : State} {locs : List Loc} {cells slots n0 : Nat} (X : Stand p l e R s m args below meth c T locs cells slots) (N : Fr n0 locs) : ∃ L, Stand p l e R s m args below meth c T L cells slots ∧ Fr n0 L := ⟨_, X, N⟩
theorem ow {d : Jvm.Cond} (i : Nat) (h : tables_1[i]? = some d) : d ∈ tables_1 := List.mem_of_getElem? h
/-! arrays of bytes whose contents are left unsaid -/
section OwnBytes
variable {p : Program} {l : Launch} {e : Env} {R : Room} {s : State} {m : MethodId} {args : Array Value} {below : List Frame} {meth : Method} {c : Code} {T : State} {locs : List Loc} {cells slots : Nat} {Z : State} {h h' h0 : Heap} {a b : Addr} {a0 : Array Value}
def own_D : Value := .int (0 : Int32)
theorem own_pad {k : ClassId} {z : Int32} {vs : List Value} {d : Value} {ty : FieldType} (F : Arv Z h a k ty z vs d) (n : Nat) : Arv Z h a k ty z (vs ++ List.replicate n d) d := F.pad (pad_rep vs d n)
/-- System.arraycopy of bytes: the destination holds some bytes again -/
theorem own_cp (X : Stand p l e R s m args below meth c T locs cells slots) (hx : p.tables.exec = Jvm.exec) (hZ : Z.Warmed39 s.vm) {own : String} {index : Nat} (hown : s.vm.findClass own = some m.cls)
    (w1 : (Cond.methodLink own index Jvm.Stand.acN).before a0 Z = true) (w2 : (Cond.native Jvm.Stand.acN).before a0 Z = true) (w3 : (Cond.static Jvm.Stand.acN).before a0 Z = true) (w4 : (Cond.initialized "java/lang/System").before a0 Z = true) (eT : T.heap = h)
    {k k' : ClassId} {z z' sp dp nn : Int32} {vs vd : List Value} {dv dd : Value} (A : Arv Z h a k .byte z vs dv) (B : Arv Z h b k' .byte z' vd dd)
    (h1 : ¬ sp < 0) (h2 : ¬ dp < 0) (h3 : ¬ nn < 0) (h4 : sp.toNatClampNeg + nn.toNatClampNeg ≤ z.toNatClampNeg) (h5 : dp.toNatClampNeg + nn.toNatClampNeg ≤ z'.toNatClampNeg) {n0 : Nat} (N : Fr n0 locs) (ge : n0 ≤ b)
    {g : JFrame} (hg : g.method = m) (hsize : g.locals.size = c.maxLocals) {rest : List Value} (hs : g.stack = .int nn :: .int dp :: .ref b :: .int sp :: .ref a :: rest) (hd : decode c.code g.pc = .ok (.invokestatic index, 3))
    (hf : 1 ≤ R.frames) {W : Nat} (hW : 2 * g.monitorRoom + (rest.map fun v => v.category).sum ≤ W) (hlo : W + (nativeFrameWords "java/lang/System" "arraycopy" 5 + 11) ≤ R.locals) :
    ∃ T' h' L xs, Stand p l e R s m args below meth c T' L cells slots ∧ T'.heap = h' ∧ Fr n0 L ∧ Keep h h' [b] ∧ Arv Z h' b k' .byte z' xs dd ∧
      ∀ target, Steps p.tables e below (T'.setTop { g with pc := g.pc + 3, stack := rest }) target → Steps p.tables e below (T.setTop g) target := by
  obtain ⟨T', h', L, X', e', N', K', A', st⟩ := cpA X hx hZ hown w1 w2 w3 w4 eT A (own_pad B (dp.toNatClampNeg + nn.toNatClampNeg)) (Or.inl ⟨rfl, rfl⟩) h1 h2 h3 h4 h5 rfl (by simp) N ge hg hsize hs hd hf hW hlo
  exact ⟨T', h', L, _, X', e', N', K', A', st⟩
theorem own_same {y : MethodName} (hi : (Cond.instanceMethod y).before a0 Z = true) (hn : ∀ r0, Z.methodNamed? y = some r0 → ∃ kr, Z.vm.classes[r0.cls]? = some kr ∧ kr.isInterface = false) (hy : y.cls ≠ "java/lang/invoke/MethodHandle" ∧ y.cls ≠ "java/lang/invoke/VarHandle") : (Cond.sameMethod y.cls y.cls y.name y.desc).before a0 Z = true := by
  obtain ⟨r0, r, h1, h2, h3, h4⟩ := Cond.instanceMethod_spec hi
  obtain ⟨kr, h5, h6⟩ := hn r0 h1
  have hc := findClass_of_methodNamed h1
  have hf := State.methodFound?_of_named h1 hy
  simp [Cond.before, Cond.holds, Cond.value, hc, hf, h1, h5, h6]
theorem own_newQ (X : Stand p l e R s m args below meth c T locs cells slots) (hx : p.tables.exec = Jvm.exec) (hZ : Z.Warmed39 s.vm) {aty : ArrayType} (w : (Cond.arrayClass (newarray.typeOf aty)).before a0 Z = true) (eT : T.heap = h) {g : JFrame} (hg : g.method = m) (hd : decode c.code g.pc = .ok (.newarray aty, 2)) {n : Int32} {rest : List Value} (hs : g.stack = .int n :: rest)
    (hn : ¬ n < 0) {cap : Nat} (hcap : n.toNatClampNeg ≤ cap) (hb : cap * 8 ≤ 536870912) (hc : cells + 1 ≤ R.cells) (hl : slots + cap ≤ R.slots) {C : String} (hC : "[" ++ (newarray.typeOf aty).toString = C) :
    ∃ T' h' cA, Stand p l e R s m args below meth c T' locs (cells + 1) (slots + cap) ∧ T'.heap = h' ∧ Ext h h' ∧ Arr Z h' h.size (newA cA (newarray.typeOf aty) n) (newarray.typeOf aty) ∧ Exa Z h' h.size C ∧
      ∀ target, Steps p.tables e below (T'.setTop { g with pc := g.pc + 2, stack := .ref h.size :: rest }) target → Steps p.tables e below (T.setTop g) target := by
  have hcb : componentBytes (newarray.typeOf aty) ≤ 8 := by cases aty <;> decide
  obtain ⟨cA, kA, comp, h1, h2, h3, X', st⟩ := X.newarrayPrim hx (mvA hZ w) hg hd hs hn (Nat.le_trans (Nat.mul_le_mul hcap hcb) hb) hc (by omega)
  subst eT
  rw [hZ.alike.findClass] at h1
  obtain ⟨kZ, z1, -⟩ := Vm.findClass_spec h1
  obtain ⟨k', z2, z3⟩ := hZ.alike.2.2 _ _ z1
  cases h2.symm.trans z2
  rw [hC] at h1
  refine ⟨_, _, cA, X'.more (Nat.le_refl _) (by omega), rfl, ⟨by show T.heap.size ≤ (T.heap.push _).size; simp, fun a c h => ?_⟩, ⟨by show (T.heap.push _)[T.heap.size]? = _; simp [newA], ⟨by simp [newA], kZ, z1, comp, by rw [← h3, z3]⟩, by simp [newA]⟩, ⟨newA cA (newarray.typeOf aty) n, kZ, by show (T.heap.push _)[T.heap.size]? = _; simp [newA], h1, z1, rfl, fun q => ?_⟩, st⟩
  · show (T.heap.push _)[a]? = _
    rw [Array.getElem?_push_lt (Array.getElem?_eq_some_iff.mp h).1]; exact (Array.getElem?_eq_getElem _).symm.trans h
  · rw [z3, q] at h3; cases h3
theorem own_fitc {k : ClassId} {z : Int32} {vs : List Value} {d : Value} {cl : Cell} (A : Arr Z h a cl .byte) (H : Has cl vs d) (G : ∀ i, i < cl.slots.size → fits .byte (vs.getD i d) = true) : FitC Z cl := fun i v hv => by
  obtain ⟨hi, rfl⟩ := Array.getElem?_eq_some_iff.mp hv
  have q := G i hi
  have e := H i hi
  rw [hv] at e
  obtain ⟨hs, k, hk, comp, hkind⟩ := A.2.1
  rw [← Option.some.inj e] at q
  simp [State.fitsSlot, State.slotType?, hk, hkind, q]
/-- the clone of an array of bytes -/
theorem own_cl (X : Stand p l e R s m args below meth c T locs cells slots) (hx : p.tables.exec = Jvm.exec) (hZ : Z.Warmed39 s.vm) {own : String} {index : Nat} (hown : s.vm.findClass own = some m.cls)
    (w1 : (Cond.methodLink own index ⟨"[B", "clone", "()Ljava/lang/Object;"⟩).before a0 Z = true) (w2 : (Cond.sameMethod "[B" "java/lang/Object" "clone" "()Ljava/lang/Object;").before a0 Z = true) (w3 : (Cond.native ⟨"java/lang/Object", "clone", "()Ljava/lang/Object;"⟩).before a0 Z = true)
    (w4 : (Cond.instanceMethod ⟨"java/lang/Object", "clone", "()Ljava/lang/Object;"⟩).before a0 Z = true) (w5 : (Cond.selects "[B" ⟨"[B", "clone", "()Ljava/lang/Object;"⟩ ⟨"java/lang/Object", "clone", "()Ljava/lang/Object;"⟩).before a0 Z = true) (w6 : (Cond.castable "[B" "java/lang/Cloneable").before a0 Z = true)
    (eT : T.heap = h) {k : ClassId} {z : Int32} {vs : List Value} {d : Value} (A : Arv Z h a k .byte z vs d) (E : Exa Z h a "[B") {g : JFrame} (hg : g.method = m) (hsize : g.locals.size = c.maxLocals) {rest : List Value} (hs : g.stack = .ref a :: rest) (hd : decode c.code g.pc = .ok (.invokevirtual index, 3))
    (hf : 1 ≤ R.frames) {W cap : Nat} (hW : 2 * g.monitorRoom + (rest.map fun v => v.category).sum ≤ W) (hl : W + 14 ≤ R.locals) (hcap : z.toNatClampNeg ≤ cap) (hc : cells + 1 ≤ R.cells) (hsl : slots + cap ≤ R.slots) :
    ∃ T' h' k', Stand p l e R s m args below meth c T' locs (cells + 1) (slots + cap) ∧ T'.heap = h' ∧ Ext h h' ∧ Arv Z h' h.size k' .byte z vs d ∧ Exa Z h' h.size "[B" ∧
      ∀ target, Steps p.tables e below (T'.setTop { g with pc := g.pc + 3, stack := .ref h.size :: rest }) target → Steps p.tables e below (T.setTop g) target := by
  obtain ⟨cl, A1, rfl, A3, A4, A5, A6⟩ := A
  obtain ⟨T', h', X', e', E', B, Ex, st⟩ := cloneA X hx hZ hown w1 w2 w3 w4 w5 w6 eT A1 E (own_fitc (k := 0) (z := 0) A1 A5 A6) hg hsize hs hd hf hW hl (by rw [A3]; exact hcap) hc hsl
  exact ⟨T', h', _, X', e', E', ⟨_, B, rfl, A3, A4, A5, A6⟩, Ex, st⟩
end OwnBytes
theorem own_nf {Z : State} {a0 : Array Value} {C : String} {y y' : MethodName} (h : (Jvm.Cond.selects C y' y').before a0 Z = true) (hi : (Jvm.Cond.instanceMethod y').before a0 Z = true) (hc : y'.cls = y.cls) : ∀ r0, Z.methodNamed? y = some r0 → ∃ kr, Z.vm.classes[r0.cls]? = some kr ∧ kr.isInterface = false := fun r0 q => by
  obtain ⟨r1, r, h1, h2, h3, h4⟩ := Cond.instanceMethod_spec hi
  obtain ⟨kr, e1, e2⟩ := notFace_of_selects h r1 h1
  have q1 := findClass_of_methodNamed h1
  have q2 := findClass_of_methodNamed q
  rw [hc] at q1
  rw [← Option.some.inj (q1.symm.trans q2)]
  exact ⟨kr, e1, e2⟩
theorem own_ishr0 (x : Int32) : (x >>> ((0 : Int32) &&& 31)) = x := by
  rw [show ((0 : Int32) &&& 31) = 0 by decide]; exact Int32.shiftRight_zero
theorem own_ishl0 (x : Int32) : (x <<< ((0 : Int32) &&& 31)) = x := by
  rw [show ((0 : Int32) &&& 31) = 0 by decide]; exact Int32.shiftLeft_zero
theorem own_selq {Z s : State} {a0 args : Array Value} {y : MethodName} (hZ : Z.Warmed39 s.vm) (nf : ∀ r0, Z.methodNamed? y = some r0 → ∃ kr, Z.vm.classes[r0.cls]? = some kr ∧ kr.isInterface = false) (wp : (Jvm.Cond.privateMethod y).before a0 Z = true) (wm : (Jvm.Cond.instanceMethod y).before a0 Z = true) (hy : y.cls ≠ "java/lang/invoke/MethodHandle" ∧ y.cls ≠ "java/lang/invoke/VarHandle") : (Jvm.Cond.selects y.cls y y).before args s = true := by
  obtain ⟨r1, r, h1, -, -, -⟩ := Cond.instanceMethod_spec wm
  obtain ⟨kr, e1, e2⟩ := nf r1 h1
  have h0 := findClass_of_methodNamed h1
  obtain ⟨k', q1, q2⟩ := hZ.alike.2.2 _ _ e1
  exact selects_self_of_private (c := r1.cls) (k := k') (by rw [hZ.alike.findClass]; exact h0) q1 (by rw [q2]; exact e2) (Cond.privateMethod_at (mvP hZ wp (args := #[]))) (mvT hZ wm) hy
theorem own_neq {o x y n : Addr} (h : x = y ∨ n ≤ x) (hy : o ≠ y) (ho : o < n) : o ≠ x := by
  intro q; subst q
  rcases h with h | h
  · exact hy h
  · exact absurd ho (Nat.not_lt.mpr h)
theorem own_frs {x y n a : Addr} (h : x = y ∨ n ≤ x) (hy : a ≤ y) (ha : a ≤ n) : a ≤ x := by
  rcases h with h | h
  · rw [h]; exact hy
  · exact Nat.le_trans ha h
theorem own_orig {x y z n a : Addr} (h : x = y ∨ n ≤ x) (hy : y = z ∨ a ≤ y) (ha : a ≤ n) : x = z ∨ a ≤ x := by
  rcases h with h | h
  · rw [h]; exact hy
  · exact Or.inr (Nat.le_trans ha h)
theorem own_memo {x z a : Addr} {ws : List Addr} (h : x = z ∨ a ≤ x) (hz : z ∈ ws) : x ∈ ws ∨ a ≤ x := by
  rcases h with h | h
  · rw [h]; exact Or.inl hz
  · exact Or.inr h
section OwnDigits
open Jvm.Free.SBG Jvm.Free.SB
variable {p : Program} {l : Launch} {e : Env} {R : Room} {s : State} {m : MethodId} {args : Array Value} {below : List Frame} {meth : Method} {c : Code} {T : State} {locs : List Loc} {cells slots : Nat} {Z : State} {h h' h0 : Heap} {a b : Addr} {a0 : Array Value}
/-- Long.stringSize -/
theorem own_ssJ (X : Stand p l e R s m args below meth c T locs cells slots) (hx : p.tables.exec = Jvm.exec) (hZ : Z.Warmed39 s.vm) {own : String} {index : Nat} (hown : s.vm.findClass own = some m.cls)
    (w1 : (Cond.methodLink own index StrSizeL.ssN).before a0 Z = true) (w2 : (Cond.static StrSizeL.ssN).before a0 Z = true) (w3 : (Cond.initialized "java/lang/Long").before a0 Z = true) (w4 : (Cond.code StrSizeL.ssN StrSizeL.ssB 6 (some .int)).before a0 Z = true) (w5 : (Cond.constantLong "java/lang/Long" 140 (-10)).before a0 Z = true) (w6 : (Cond.constantLong "java/lang/Long" 53 10).before a0 Z = true)
    (eT : T.heap = h) {x : Int64} {g : JFrame} (hg : g.method = m) (hsize : g.locals.size = c.maxLocals) {rest : List Value} (hs : g.stack = .long x :: rest) (hd : decode c.code g.pc = .ok (.invokestatic index, 3))
    (hf : 2 ≤ R.frames) {W : Nat} (hW : 2 * g.monitorRoom + (rest.map fun v => v.category).sum ≤ W) (hlo : W + 57 ≤ R.locals) (hc : cells ≤ R.cells) (hsl : slots ≤ R.slots) :
    ∃ T', Stand p l e R s m args below meth c T' locs cells slots ∧ T'.heap = h ∧ ∀ target, Steps p.tables e below (T'.setTop { g with pc := g.pc + 3, stack := .int (strSizeOfL x) :: rest }) target → Steps p.tables e below (T.setTop g) target := by
  have htab : StrSizeL.tab.before args s = true := by
    simp only [StrSizeL.tab, Cond.before_and, Bool.and_eq_true]
    exact ⟨mvT hZ w4, mvT hZ w5, mvT hZ w6⟩
  obtain ⟨v, vm1, ⟨T', L', c', n'⟩, hW1, X', ⟨⟨q1, q2, q3, q4⟩, q5⟩, st⟩ := Jvm.LawKit.callS X hx (y := StrSizeL.ssN) hown (mvT hZ w1) (mvT hZ w2) (mvT hZ w3) (mvT hZ w4) (by decide) (StrSizeL.pays hf hlo htab (mvT hZ w3)) hg hsize (argsL := [.long x]) (rest := rest) (fun sig hsig => by
    rw [show parseMethodDescriptor StrSizeL.ssN.desc = some ⟨[.long], some .int⟩ by decide +kernel] at hsig
    cases hsig; rfl) hs hW hd (fun vm1 _ => ⟨hc, hsl, x, rfl⟩)
  dsimp only [Pt.U, Pt.locs, Pt.cells, Pt.slots] at X' q1 q2 q3 q4 q5 st
  subst q2 q3 q4
  have hv := q5 x rfl
  subst hv
  exact ⟨T', X', q1.trans eT, fun t k => st t k⟩
end OwnDigits
section OwnDigits2
open Jvm.Free.SBG Jvm.Free.SB
variable {p : Program} {l : Launch} {e : Env} {R : Room} {s : State} {m : MethodId} {args : Array Value} {below : List Frame} {meth : Method} {c : Code} {T : State} {locs : List Loc} {cells slots : Nat} {Z : State} {h h' h0 : Heap} {a b : Addr} {a0 : Array Value}
def own_T (Z : State) : Prop := ∃ (st d1 : Addr) (D1 : Cell) (d2 : Addr) (D2 : Cell), Tbl Z "DigitOnes" st d1 D1 ∧ Tbl Z "DigitTens" st d2 D2
theorem own_tbl {n : String} {st d : Addr} {D : Cell} (F : Tbl Z n st d D) : (∃ cS, Z.heap[st]? = some cS) ∧ Z.heap[d]? = some D := by
  obtain ⟨cf, i, k, f, cS, h1, h2, h3, h4, h5, h6, h7, h8, r⟩ := F
  exact ⟨⟨cS, h5⟩, h8⟩
theorem own_negJ (x : Int64) : (if x < 0 then x else -x) = negL x.toInt.natAbs := by
  unfold negL
  by_cases q : x < 0
  · rw [if_pos q]
    rw [Int64.lt_iff_toInt_lt, show (0 : Int64).toInt = 0 by decide] at q
    rw [show (-(x.toInt.natAbs : Int)) = x.toInt by omega, Int64.ofInt_toInt]
  · rw [if_neg q]
    rw [Int64.lt_iff_toInt_lt, show (0 : Int64).toInt = 0 by decide] at q
    rw [show (-(x.toInt.natAbs : Int)) = -x.toInt by omega, Int64.ofInt_neg, Int64.ofInt_toInt]
theorem own_absJ (x : Int64) : x.toInt.natAbs ≤ 2 ^ 63 := Jvm.FP.Core.int64_abs x
theorem own_sizeJ (x : Int64) : (strSizeOfL x).toInt = (digitsL x.toInt.natAbs + GetCharsL.sgnL x : Nat) ∧ 1 ≤ (strSizeOfL x).toInt ∧ (strSizeOfL x).toInt ≤ 21 := by
  have d := digitsL_pos x.toInt.natAbs
  have sg : GetCharsL.sgnL x ≤ 1 := by unfold GetCharsL.sgnL; split <;> omega
  have e : (strSizeOfL x).toInt = (digitsL x.toInt.natAbs + GetCharsL.sgnL x : Nat) := by
    rw [strSizeOfL_eq (own_absJ x) (own_negJ x)]
    exact Int32.toInt_ofNat_of_lt (by omega)
  exact ⟨e, by omega, by omega⟩
theorem own_kp {cl cl' : Cell} (hb : h[b]? = some cl) (q2 : h'[b]? = some cl') (q5 : h'.size = h.size) (q6 : ∀ (y : Addr) (cy : Cell), y ≠ b → h[y]? = some cy → h'[y]? = some cy) (o1 : cl'.cls = cl.cls) (o2 : cl'.vm = cl.vm) (o3 : cl'.slots.size = cl.slots.size) : Keep h h' [b] := by
  refine ⟨Nat.le_of_eq q5.symm, fun x c q r => q6 x c (fun z => r (by rw [z]; simp)) q, fun x c q => ?_⟩
  by_cases z : x = b
  · subst z
    cases hb.symm.trans q
    exact ⟨cl', q2, o1, o2, o3⟩
  · exact ⟨c, q6 x c z q, rfl, rfl, rfl⟩
theorem own_av {cl cl' : Cell} {k : ClassId} {z : Int32} {d : Value} (A : Arr Z h b cl .byte) (hk : cl.cls = k) (hsz : cl.slots.size = z.toNatClampNeg) (hz0 : ¬ z < 0) (q2 : h'[b]? = some cl') (o1 : cl'.cls = cl.cls) (o2 : cl'.vm = cl.vm) (o3 : cl'.slots.size = cl.slots.size) (o4 : ∀ i, i < cl'.slots.size → fits .byte (cl'.slots.getD i .null) = true) : Arv Z h' b k .byte z cl'.slots.toList d := by
  obtain ⟨a1, ⟨a2, kk, a3, comp, a4⟩, a5⟩ := A
  have g : ∀ i, i < cl'.slots.size → cl'.slots.toList.getD i d = cl'.slots.getD i .null := fun i hi => by
    simp [List.getD_eq_getElem?_getD, Array.getD_eq_getD_getElem?, hi]
  refine ⟨cl', ⟨q2, ⟨by rw [o2]; exact a2, kk, by rw [o1]; exact a3, comp, a4⟩, by rw [o2]; exact a5⟩, o1.trans hk, o3.trans hsz, hz0, fun i hi => ?_, fun i hi => by rw [g i hi]; exact o4 i hi⟩
  rw [g i hi]
  simp [Array.getD_eq_getD_getElem?, hi]
/-- Long.getChars: the array holds some bytes again -/
theorem own_gcJ (X : Stand p l e R s m args below meth c T locs cells slots) (hx : p.tables.exec = Jvm.exec) (hZ : Z.Warmed39 s.vm) {own : String} {index : Nat} (hown : s.vm.findClass own = some m.cls)
    (w1 : (Cond.methodLink own index GetCharsL.gcN).before a0 Z = true) (w2 : (Cond.static GetCharsL.gcN).before a0 Z = true) (w3 : (Cond.initialized "java/lang/Long").before a0 Z = true) (w4 : (Cond.code GetCharsL.gcN GetCharsL.gcB 11 (some .int)).before a0 Z = true)
    (w5 : (Cond.fieldLink "java/lang/Long" 133 "java/lang/Integer" "DigitOnes" "[B").before a0 Z = true) (w6 : (Cond.fieldLink "java/lang/Long" 137 "java/lang/Integer" "DigitTens" "[B").before a0 Z = true) (w7 : (Cond.constantLong "java/lang/Long" 129 (-2147483648)).before a0 Z = true) (w8 : (Cond.constantLong "java/lang/Long" 131 100).before a0 Z = true)
    (eT : T.heap = h) {x : Int64} {i z : Int32} {k : ClassId} {xs : List Value} {d : Value} (B : Arv Z h b k .byte z xs d) (TB : own_T Z) {n0 : Nat} (O : Old Z n0 h) (N : Fr n0 locs) (ge : n0 ≤ b) (hi : (strSizeOfL x).toInt ≤ i.toInt) (hz : i.toInt ≤ z.toInt)
    {g : JFrame} (hg : g.method = m) (hsize : g.locals.size = c.maxLocals) {rest : List Value} (hs : g.stack = .ref b :: .int i :: .long x :: rest) (hd : decode c.code g.pc = .ok (.invokestatic index, 3))
    (hf : 2 ≤ R.frames) {W : Nat} (hW : 2 * g.monitorRoom + (rest.map fun v => v.category).sum ≤ W) (hlo : W + 102 ≤ R.locals) (hc : cells ≤ R.cells) (hsl : slots ≤ R.slots) :
    ∃ T' h' L xs' r, Stand p l e R s m args below meth c T' L cells slots ∧ T'.heap = h' ∧ Fr n0 L ∧ Keep h h' [b] ∧ Arv Z h' b k .byte z xs' d ∧ ∀ target, Steps p.tables e below (T'.setTop { g with pc := g.pc + 3, stack := .int r :: rest }) target → Steps p.tables e below (T.setTop g) target := by
  obtain ⟨st, d1, D1, d2, D2, T1, T2⟩ := TB
  obtain ⟨cl, A, hk, hsz, hz0, H, G⟩ := B
  obtain ⟨e1, e2, e3⟩ := own_sizeJ x
  have t1 := own_tbl T1
  have t2 := own_tbl T2
  have htab : GetCharsL.tab.before args s = true := by
    simp only [GetCharsL.tab, Cond.before_and, Bool.and_eq_true]
    exact ⟨mvT hZ w4, mvT hZ w5, mvT hZ w6, mvT hZ w7, mvT hZ w8⟩
  have hii : Int32.ofNat i.toNatClampNeg = i := by
    apply Int32.toInt_inj.mp
    rw [Int32.toInt_ofNat_of_lt (by have := i.toInt_lt; simp only [Int32.toNatClampNeg]; omega)]
    simp only [Int32.toNatClampNeg]; omega
  have lt : ∀ y (cy : Cell), Z.heap[y]? = some cy → b ≠ y := fun y cy q => (O.ne (Array.getElem?_eq_some_iff.mp q).1 ge).symm
  have hby : ∀ j, j < cl.slots.size → fits .byte (cl.slots.getD j .null) = true := fun j hj => by
    rw [Array.getD_eq_getD_getElem?, H j hj]; exact G j hj
  have hA : s.isArrayOf cl .byte := State.isArrayOf_alike hZ.alike A.2.1
  let gg : GetCharsL.G := ⟨x, x.toInt.natAbs, i.toNatClampNeg, b, cl, st, d1, D1, d2, D2⟩
  obtain ⟨v, vm1, ⟨T', L', c', n'⟩, hW1, X', ⟨q1, q2, q3, q4, q5, q6, L, q7, q8⟩, stp⟩ := Jvm.LawKit.callS X hx (y := GetCharsL.gcN) hown (mvT hZ w1) (mvT hZ w2) (mvT hZ w3) (mvT hZ w4) (by decide) (GetCharsL.pays gg W htab (mvT hZ w3) hf hlo) hg hsize (argsL := [.long x, .int i, .ref b]) (rest := rest) (fun sig hsig => by
    rw [show parseMethodDescriptor GetCharsL.gcN.desc = some ⟨[.long, .int, .array .byte], some .int⟩ by decide +kernel] at hsig
    cases hsig; rfl) hs hW hd (fun vm1 hw1 => ⟨by show _ = #[_, Value.int (Int32.ofNat i.toNatClampNeg), _]; rw [hii], hc, hsl, by
      refine ⟨by show _ = #[_, Value.int (Int32.ofNat i.toNatClampNeg), _]; rw [hii], by show (T.setVm vm1).heap[b]? = _; rw [show (T.setVm vm1).heap = T.heap from rfl, eT]; exact A.1, ?_, A.2.2, by rw [hsz]; have := z.toInt_lt; simp only [Int32.toNatClampNeg]; omega, by show i.toNatClampNeg ≤ cl.slots.size; rw [hsz]; simp only [Int32.toNatClampNeg]; omega, by show digitsL x.toInt.natAbs + GetCharsL.sgnL x ≤ i.toNatClampNeg; simp only [Int32.toNatClampNeg]; omega, own_absJ x, own_negJ x, ?_, ?_, ?_, ?_, ?_⟩
      · exact State.isArrayOf_alike (s := s) hw1.alike hA
      · exact T1.move (U' := T.setVm vm1) (hZ.alike.trans hw1.alike) (fun cS q => by rw [show (T.setVm vm1).heap = T.heap from rfl, eT]; exact O.2.2 _ _ q) (by rw [show (T.setVm vm1).heap = T.heap from rfl, eT]; exact O.2.2 _ _ t1.2)
      · exact T2.move (U' := T.setVm vm1) (hZ.alike.trans hw1.alike) (fun cS q => by rw [show (T.setVm vm1).heap = T.heap from rfl, eT]; exact O.2.2 _ _ q) (by rw [show (T.setVm vm1).heap = T.heap from rfl, eT]; exact O.2.2 _ _ t2.2)
      · obtain ⟨cS, q⟩ := t1.1; exact lt _ _ q
      · exact lt _ _ t1.2
      · exact lt _ _ t2.2⟩)
  dsimp only [Pt.U, Pt.locs, Pt.cells, Pt.slots] at X' q1 q2 q3 q4 q5 q6 q7 stp
  subst q1 q3 q4 q7
  have eh : (T.setVm vm1).heap = h := eT
  rw [eh] at q5 q6
  obtain ⟨o1, o2, o3, o4, -⟩ := GetCharsL.outCell_facts gg (own_absJ x) (by show digitsL x.toInt.natAbs + GetCharsL.sgnL x ≤ i.toNatClampNeg; simp only [Int32.toNatClampNeg]; omega) hby
  refine ⟨T', _, _, (GetCharsL.outCell gg).slots.toList, _, X', rfl, N.app fun y hy => by rw [q8 y hy]; exact ge, own_kp A.1 q2 q5 q6 o1 o2 o3, own_av A hk hsz hz0 q2 o1 o2 o3 o4, fun t k => stp t k⟩
end OwnDigits2
section OwnDigits3
open Jvm.Free.SBG Jvm.Free.SB
variable {p : Program} {l : Launch} {e : Env} {R : Room} {s : State} {m : MethodId} {args : Array Value} {below : List Frame} {meth : Method} {c : Code} {T : State} {locs : List Loc} {cells slots : Nat} {Z : State} {h h' h0 : Heap} {a b : Addr} {a0 : Array Value}
/-- Integer.stringSize -/
theorem own_ssI (X : Stand p l e R s m args below meth c T locs cells slots) (hx : p.tables.exec = Jvm.exec) (hZ : Z.Warmed39 s.vm) {own : String} {index : Nat} (hown : s.vm.findClass own = some m.cls)
    (w1 : (Cond.methodLink own index StrSize.ssN).before a0 Z = true) (w2 : (Cond.static StrSize.ssN).before a0 Z = true) (w3 : (Cond.initialized "java/lang/Integer").before a0 Z = true) (w4 : (Cond.code StrSize.ssN StrSize.ssB 4 (some .int)).before a0 Z = true)
    (eT : T.heap = h) {x : Int32} {g : JFrame} (hg : g.method = m) (hsize : g.locals.size = c.maxLocals) {rest : List Value} (hs : g.stack = .int x :: rest) (hd : decode c.code g.pc = .ok (.invokestatic index, 3))
    (hf : 2 ≤ R.frames) {W : Nat} (hW : 2 * g.monitorRoom + (rest.map fun v => v.category).sum ≤ W) (hlo : W + 55 ≤ R.locals) (hc : cells ≤ R.cells) (hsl : slots ≤ R.slots) :
    ∃ T', Stand p l e R s m args below meth c T' locs cells slots ∧ T'.heap = h ∧ ∀ target, Steps p.tables e below (T'.setTop { g with pc := g.pc + 3, stack := .int (strSizeOf x) :: rest }) target → Steps p.tables e below (T.setTop g) target := by
  have htab : StrSize.tab.before args s = true := by
    exact mvT hZ w4
  obtain ⟨v, vm1, ⟨T', L', c', n'⟩, hW1, X', ⟨⟨q1, q2, q3, q4⟩, q5⟩, st⟩ := Jvm.LawKit.callS X hx (y := StrSize.ssN) hown (mvT hZ w1) (mvT hZ w2) (mvT hZ w3) (mvT hZ w4) (by decide) (StrSize.pays hf hlo htab (mvT hZ w3)) hg hsize (argsL := [.int x]) (rest := rest) (fun sig hsig => by
    rw [show parseMethodDescriptor StrSize.ssN.desc = some ⟨[.int], some .int⟩ by decide +kernel] at hsig
    cases hsig; rfl) hs hW hd (fun vm1 _ => ⟨hc, hsl, x, rfl⟩)
  dsimp only [Pt.U, Pt.locs, Pt.cells, Pt.slots] at X' q1 q2 q3 q4 q5 st
  subst q2 q3 q4
  have hv := q5 x rfl
  subst hv
  exact ⟨T', X', q1.trans eT, fun t k => st t k⟩
theorem own_negI (x : Int32) : (if x < 0 then x else -x) = negI x.toInt.natAbs := by
  unfold negI
  by_cases q : x < 0
  · rw [if_pos q]
    rw [Int32.lt_iff_toInt_lt, show (0 : Int32).toInt = 0 by decide] at q
    rw [show (-(x.toInt.natAbs : Int)) = x.toInt by omega, Int32.ofInt_toInt]
  · rw [if_neg q]
    rw [Int32.lt_iff_toInt_lt, show (0 : Int32).toInt = 0 by decide] at q
    rw [show (-(x.toInt.natAbs : Int)) = -x.toInt by omega, Int32.ofInt_neg, Int32.ofInt_toInt]
theorem own_absI (x : Int32) : x.toInt.natAbs ≤ 2 ^ 31 := Jvm.FP.Core.int32_abs x
theorem own_sizeI (x : Int32) : (strSizeOf x).toInt = (Jvm.Free.SBG.digits x.toInt.natAbs + GetChars.sgn x : Nat) ∧ 1 ≤ (strSizeOf x).toInt ∧ (strSizeOf x).toInt ≤ 11 := by
  have d := digits_pos x.toInt.natAbs
  have sg : GetChars.sgn x ≤ 1 := by unfold GetChars.sgn; split <;> omega
  have e : (strSizeOf x).toInt = (Jvm.Free.SBG.digits x.toInt.natAbs + GetChars.sgn x : Nat) := by
    rw [strSizeOf_eq (own_absI x) (own_negI x)]
    exact Int32.toInt_ofNat_of_lt (by omega)
  exact ⟨e, by omega, by omega⟩
/-- Integer.getChars: the array holds some bytes again -/
theorem own_gcI (X : Stand p l e R s m args below meth c T locs cells slots) (hx : p.tables.exec = Jvm.exec) (hZ : Z.Warmed39 s.vm) {own : String} {index : Nat} (hown : s.vm.findClass own = some m.cls)
    (w1 : (Cond.methodLink own index GetChars.gcN).before a0 Z = true) (w2 : (Cond.static GetChars.gcN).before a0 Z = true) (w3 : (Cond.initialized "java/lang/Integer").before a0 Z = true) (w4 : (Cond.code GetChars.gcN GetChars.gcB 7 (some .int)).before a0 Z = true)
    (w5 : (Cond.fieldLink "java/lang/Integer" 83 "java/lang/Integer" "DigitOnes" "[B").before a0 Z = true) (w6 : (Cond.fieldLink "java/lang/Integer" 87 "java/lang/Integer" "DigitTens" "[B").before a0 Z = true)
    (eT : T.heap = h) {x : Int32} {i z : Int32} {k : ClassId} {xs : List Value} {d : Value} (B : Arv Z h b k .byte z xs d) (TB : own_T Z) {n0 : Nat} (O : Old Z n0 h) (N : Fr n0 locs) (ge : n0 ≤ b) (hi : (strSizeOf x).toInt ≤ i.toInt) (hz : i.toInt ≤ z.toInt)
    {g : JFrame} (hg : g.method = m) (hsize : g.locals.size = c.maxLocals) {rest : List Value} (hs : g.stack = .ref b :: .int i :: .int x :: rest) (hd : decode c.code g.pc = .ok (.invokestatic index, 3))
    (hf : 2 ≤ R.frames) {W : Nat} (hW : 2 * g.monitorRoom + (rest.map fun v => v.category).sum ≤ W) (hlo : W + 78 ≤ R.locals) (hc : cells ≤ R.cells) (hsl : slots ≤ R.slots) :
    ∃ T' h' L xs' r, Stand p l e R s m args below meth c T' L cells slots ∧ T'.heap = h' ∧ Fr n0 L ∧ Keep h h' [b] ∧ Arv Z h' b k .byte z xs' d ∧ ∀ target, Steps p.tables e below (T'.setTop { g with pc := g.pc + 3, stack := .int r :: rest }) target → Steps p.tables e below (T.setTop g) target := by
  obtain ⟨st, d1, D1, d2, D2, T1, T2⟩ := TB
  obtain ⟨cl, A, hk, hsz, hz0, H, G⟩ := B
  obtain ⟨e1, e2, e3⟩ := own_sizeI x
  have t1 := own_tbl T1
  have t2 := own_tbl T2
  have htab : GetChars.tab.before args s = true := by
    simp only [GetChars.tab, Cond.before_and, Bool.and_eq_true]
    exact ⟨mvT hZ w4, mvT hZ w5, mvT hZ w6⟩
  have hii : Int32.ofNat i.toNatClampNeg = i := by
    apply Int32.toInt_inj.mp
    rw [Int32.toInt_ofNat_of_lt (by have := i.toInt_lt; simp only [Int32.toNatClampNeg]; omega)]
    simp only [Int32.toNatClampNeg]; omega
  have lt : ∀ y (cy : Cell), Z.heap[y]? = some cy → b ≠ y := fun y cy q => (O.ne (Array.getElem?_eq_some_iff.mp q).1 ge).symm
  have hby : ∀ j, j < cl.slots.size → fits .byte (cl.slots.getD j .null) = true := fun j hj => by
    rw [Array.getD_eq_getD_getElem?, H j hj]; exact G j hj
  have hA : s.isArrayOf cl .byte := State.isArrayOf_alike hZ.alike A.2.1
  let gg : GetChars.G := ⟨x, x.toInt.natAbs, i.toNatClampNeg, b, cl, st, d1, D1, d2, D2⟩
  obtain ⟨v, vm1, ⟨T', L', c', n'⟩, hW1, X', ⟨q1, q2, q3, q4, q5, q6, L, q7, q8⟩, stp⟩ := Jvm.LawKit.callS X hx (y := GetChars.gcN) hown (mvT hZ w1) (mvT hZ w2) (mvT hZ w3) (mvT hZ w4) (by decide) (GetChars.pays gg W htab (mvT hZ w3) hf hlo) hg hsize (argsL := [.int x, .int i, .ref b]) (rest := rest) (fun sig hsig => by
    rw [show parseMethodDescriptor GetChars.gcN.desc = some ⟨[.int, .int, .array .byte], some .int⟩ by decide +kernel] at hsig
    cases hsig; rfl) hs hW hd (fun vm1 hw1 => ⟨by show _ = #[_, Value.int (Int32.ofNat i.toNatClampNeg), _]; rw [hii], hc, hsl, by
      refine ⟨by show _ = #[_, Value.int (Int32.ofNat i.toNatClampNeg), _]; rw [hii], by show (T.setVm vm1).heap[b]? = _; rw [show (T.setVm vm1).heap = T.heap from rfl, eT]; exact A.1, ?_, A.2.2, by rw [hsz]; have := z.toInt_lt; simp only [Int32.toNatClampNeg]; omega, by show i.toNatClampNeg ≤ cl.slots.size; rw [hsz]; simp only [Int32.toNatClampNeg]; omega, by show Jvm.Free.SBG.digits x.toInt.natAbs + GetChars.sgn x ≤ i.toNatClampNeg; simp only [Int32.toNatClampNeg]; omega, own_absI x, own_negI x, ?_, ?_, ?_, ?_, ?_⟩
      · exact State.isArrayOf_alike (s := s) hw1.alike hA
      · exact T1.move (U' := T.setVm vm1) (hZ.alike.trans hw1.alike) (fun cS q => by rw [show (T.setVm vm1).heap = T.heap from rfl, eT]; exact O.2.2 _ _ q) (by rw [show (T.setVm vm1).heap = T.heap from rfl, eT]; exact O.2.2 _ _ t1.2)
      · exact T2.move (U' := T.setVm vm1) (hZ.alike.trans hw1.alike) (fun cS q => by rw [show (T.setVm vm1).heap = T.heap from rfl, eT]; exact O.2.2 _ _ q) (by rw [show (T.setVm vm1).heap = T.heap from rfl, eT]; exact O.2.2 _ _ t2.2)
      · obtain ⟨cS, q⟩ := t1.1; exact lt _ _ q
      · exact lt _ _ t1.2
      · exact lt _ _ t2.2⟩)
  dsimp only [Pt.U, Pt.locs, Pt.cells, Pt.slots] at X' q1 q2 q3 q4 q5 q6 q7 stp
  subst q1 q3 q4 q7
  have eh : (T.setVm vm1).heap = h := eT
  rw [eh] at q5 q6
  obtain ⟨o1, o2, o3, o4, -⟩ := GetChars.outCell_facts gg (own_absI x) (by show Jvm.Free.SBG.digits x.toInt.natAbs + GetChars.sgn x ≤ i.toNatClampNeg; simp only [Int32.toNatClampNeg]; omega) hby
  refine ⟨T', _, _, (GetChars.outCell gg).slots.toList, _, X', rfl, N.app fun y hy => by rw [q8 y hy]; exact ge, own_kp A.1 q2 q5 q6 o1 o2 o3, own_av A hk hsz hz0 q2 o1 o2 o3 o4, fun t k => stp t k⟩
end OwnDigits3
/-! literals -/
section OwnLit
variable {Z : State} {a0 : Array Value}
theorem own_EW (hw : ∀ d ∈ tables_1, d.before a0 Z = true) : EW Z a0 consts_1 :=
  EW.cons (text := " ") (hw _ (ow 67 rfl)) (by decide) (EW.cons (text := "NOOP") (hw _ (ow 209 rfl)) (by decide) (EW.cons (text := "NOOP") (hw _ (ow 0 rfl)) (by decide) EW.nil))
theorem own_wS (hw : ∀ d ∈ tables_1, d.before a0 Z = true) : ∀ a ∈ Bundle.stringAtoms, a.before a0 Z = true := fun d hd => by
  simp only [Bundle.stringAtoms, Bundle.sN, List.mem_cons, List.not_mem_nil, or_false] at hd
  rcases hd with rfl | rfl | rfl | rfl | rfl | rfl | rfl
  · exact hw _ (ow 1 rfl)
  · exact hw _ (ow 2 rfl)
  · exact hw _ (ow 3 rfl)
  · exact hw _ (ow 4 rfl)
  · exact hw _ (ow 5 rfl)
  · exact hw _ (ow 6 rfl)
  · exact hw _ (ow 7 rfl)
theorem own_sfx {EL : List (String × Nat)} {vm : Vm} {h : Heap} {x y : Addr} (o : x = y ∨ h.size ≤ x) (S : Safe Z EL vm h y) : Safe Z EL vm h x := by
  rcases o with o | o
  · rw [o]; exact S
  · exact Safe.new o
theorem own_since (s : State) (n : Nat) : s.Since s.vm n := (State.WarmedH.refl s).since n
theorem own_re {p : Program} {l : Launch} {e : Env} {R : Room} {s : State} {v1 v2 : Vm} {m : MethodId} {args : Array Value} {below : List Frame} {meth : Method} {c : Code} {T : State} {locs : List Loc} {cells slots : Nat} (X : Stand p l e R ((s.setVm v1).setVm v2) m args below meth c T locs cells slots) : Stand p l e R (s.setVm v2) m args below meth c T locs cells slots := X
end OwnLit
theorem d14_0 : decode jdk_42_method_152_code 0 = .ok (.getstatic 38, 3) := by decide +kernel
theorem d14_3 : decode jdk_42_method_152_code 3 = .ok (.ifCond .eq 10, 3) := by decide +kernel
theorem d14_6 : decode jdk_42_method_152_code 6 = .ok (.aload_n 0, 1) := by decide +kernel
theorem d14_7 : decode jdk_42_method_152_code 7 = .ok (.getfield 15, 3) := by decide +kernel
theorem d14_10 : decode jdk_42_method_152_code 10 = .ok (.goto 4, 3) := by decide +kernel
theorem d14_14 : decode jdk_42_method_152_code 14 = .ok (.ireturn, 1) := by decide +kernel
theorem pn_14 : plainName "java/lang/String" = true := by first | (simp [plainName, overriddenIn]; done) | decide +kernel
theorem ef_14 (m : MethodId) (x0 : Addr) : entryFrame m #[(.ref x0)] 1 = mkF m 0 #[.val (.ref x0)] [] := by first | (simp [entryFrame, mkF, argsToLocals, Value.category]; done) | rfl
def Q14 (Z : State) (a1 : Addr) (cs : Int32) (h0 : Heap) (n0 : Nat) (v : Option Value) (h : Heap) (L : List Loc) : Prop := v = some (.int (0 : Int32)) ∧ Fr n0 L ∧ h = h0
set_option maxRecDepth 65536 in
set_option maxHeartbeats 40000000 in
theorem rm14 (l : Launch) (Z : State) (a0 : Array Value) (hw : ∀ d ∈ tables_1, d.before a0 Z = true) (ws : List Jvm.Cond) (a1 : Addr) (cs : Int32) (h0 : Heap) (n0 : Nat) (Z0 : n0 ≤ h0.size) (O0 : Old Z n0 h0) (SCS : Sta Z Z.heap "java/lang/String" "COMPACT_STRINGS" "Z" (.int cs)) (hcs : ¬ cs = (0 : Int32)) (F_coder_a1 : Fld Z h0 a1 "java/lang/String" "coder" "B" (.int (0 : Int32))) :
    MetFree l (⟨"java/lang/String", "coder", "()B"⟩ : MethodName) (head1 (Jvm.Cond.code (⟨"java/lang/String", "coder", "()B"⟩ : MethodName) jdk_42_method_152_code 1 (some .byte) :: ws) ({ frames := 0, cells := 0, slots := 0, locals := 0 } : Room)) (fun a U => a = #[(.ref a1)] ∧ Z.Warmed39 U.vm ∧ U.heap = h0) (fun _ _ _ _ _ => True) (fun _ U o U' => ∃ v L, o = .returned v ∧ Q14 Z a1 cs h0 n0 v U'.heap L ∧ FrameEnd U o U' L ({ frames := 0, cells := 0, slots := 0, locals := 0 } : Room).cells ({ frames := 0, cells := 0, slots := 0, locals := 0 } : Room).slots) := by
  refine MetFree.of_bodySF (plainFor_of_name pn_14) hisR ?_
  intro p e s m args below meth c s₁ Bd hml0 hP hK
  obtain ⟨rfl, hZ, hh⟩ := hP
  have hx := Bd.exec
  have hby := Bd.bytes
  have hml : c.maxLocals = 1 := hml0
  have hown : s.vm.findClass "java/lang/String" = some m.cls := findClass_of_methodNamed Bd.named
  have hnm := (name_of_methodNamed Bd.named Bd.method).1
  have X0 : Stand p l e ({ frames := 0, cells := 0, slots := 0, locals := 0 } : Room) s m #[(.ref a1)] below meth c s₁ [] 0 0 := Stand.of_body Bd
  have e0 : s₁.heap = h0 := by rw [← hh, Bd.state]; rfl
  have N0 := Fr.nil n0
  apply own_in
  refine own_pre (B := s₁.setTop (mkF m 0 #[.val (.ref a1)] [])) (fun t k => castTop (ef_14 m a1) k) ?_
  obtain ⟨T2, X2, e2, st2⟩ := getS2 X0 hx hZ hown (host := "") (Or.inl (hw _ (ow 88 rfl))) Via.refl e0 (Sta.ext O0.2 SCS) (g := (mkF m 0 #[.val (.ref a1)] [])) rfl (hb hby d14_0)
  refine own_pre (B := T2.setTop (mkF m 3 #[.val (.ref a1)] [(.int cs)])) (fun t k => st2 t k) ?_
  refine own_pre (B := T2.setTop (mkF m 6 #[.val (.ref a1)] [])) (fun t k => XS.ifNo X2.here hx rfl (hb hby d14_3) rfl ((if0 _ _).trans (feq hcs).1) k) ?_
  refine own_pre (B := T2.setTop (mkF m 7 #[.val (.ref a1)] [(.ref a1)])) (fun t k => XS.aloadN X2.here hx rfl (hb hby d14_6) rfl rfl k) ?_
  obtain ⟨T3, X3, e3, st3⟩ := getF X2 hx hZ hown (host := "") (Or.inl (hw _ (ow 89 rfl))) Via.refl e2 F_coder_a1 (g := (mkF m 7 #[.val (.ref a1)] [(.ref a1)])) rfl rfl (hb hby d14_7)
  refine own_pre (B := T3.setTop (mkF m 10 #[.val (.ref a1)] [(.int (0 : Int32))])) (fun t k => st3 t k) ?_
  refine own_pre (B := T3.setTop (mkF m 14 #[.val (.ref a1)] [(.int (0 : Int32))])) (fun t k => XS.goto X3.here hx rfl (pc0 := 10) (pc' := 14) rfl (hb hby d14_10) (by decide) (by decide) k) ?_
  obtain ⟨fsr4, hrr4, hrunr4, hendedr4, hWr4, hsamer4⟩ := X3.leave (v := some (.int (0 : Int32))) (fun h => by rw [Bd.returns] at h; cases h)
  refine ⟨_, _, (retN X3 hx (t := .byte) Bd.returns (by simp) (hb hby d14_14) hrr4), hrunr4, hendedr4, _, _, rfl, ?_, ⟨_, rfl⟩, hWr4, hsamer4.mono (by decide) (by decide)⟩
  show Q14 Z a1 cs h0 n0 _ T3.heap _
  rw [e3]
  exact ⟨rfl, N0, rfl⟩
theorem pd_0 : parseMethodDescriptor "()B" = some ⟨[], some .byte⟩ := by decide +kernel
theorem d13_0 : decode jdk_42_method_54_code 0 = .ok (.aload_n 0, 1) := by decide +kernel
theorem d13_1 : decode jdk_42_method_54_code 1 = .ok (.getfield 9, 3) := by decide +kernel
theorem d13_4 : decode jdk_42_method_54_code 4 = .ok (.arraylength, 1) := by decide +kernel
theorem d13_5 : decode jdk_42_method_54_code 5 = .ok (.aload_n 0, 1) := by decide +kernel
theorem d13_6 : decode jdk_42_method_54_code 6 = .ok (.invokevirtual 335, 3) := by decide +kernel
theorem d13_9 : decode jdk_42_method_54_code 9 = .ok (.ishr, 1) := by decide +kernel
theorem d13_10 : decode jdk_42_method_54_code 10 = .ok (.ireturn, 1) := by decide +kernel
theorem pn_13 : plainName "java/lang/String" = true := by first | (simp [plainName, overriddenIn]; done) | decide +kernel
theorem ef_13 (m : MethodId) (x0 : Addr) : entryFrame m #[(.ref x0)] 1 = mkF m 0 #[.val (.ref x0)] [] := by first | (simp [entryFrame, mkF, argsToLocals, Value.category]; done) | rfl
def Q13 (Z : State) (a1 : Addr) (cs : Int32) (w_value_a1 : Addr) (k_w_value_a1 : ClassId) (xs : List Value) (nn : Int32) (h0 : Heap) (n0 : Nat) (v : Option Value) (h : Heap) (L : List Loc) : Prop := v = some (.int nn) ∧ Fr n0 L ∧ h = h0
set_option maxRecDepth 65536 in
set_option maxHeartbeats 40000000 in
theorem rm13 (l : Launch) (Z : State) (a0 : Array Value) (hw : ∀ d ∈ tables_1, d.before a0 Z = true) (ws : List Jvm.Cond) (a1 : Addr) (cs : Int32) (w_value_a1 : Addr) (k_w_value_a1 : ClassId) (xs : List Value) (nn : Int32) (h0 : Heap) (n0 : Nat) (Z0 : n0 ≤ h0.size) (O0 : Old Z n0 h0) (SCS : Sta Z Z.heap "java/lang/String" "COMPACT_STRINGS" "Z" (.int cs)) (hcs : ¬ cs = (0 : Int32)) (E_a1 : Exa Z h0 a1 "java/lang/String") (F_coder_a1 : Fld Z h0 a1 "java/lang/String" "coder" "B" (.int (0 : Int32))) (F_value_a1 : Fld Z h0 a1 "java/lang/String" "value" "[B" (.ref w_value_a1)) (V_w_value_a1 : Arv Z h0 w_value_a1 k_w_value_a1 .byte nn xs (.int (0 : Int32))) :
    MetFree l (⟨"java/lang/String", "length", "()I"⟩ : MethodName) (head1 (Jvm.Cond.code (⟨"java/lang/String", "length", "()I"⟩ : MethodName) jdk_42_method_54_code 1 (some .int) :: ws) ({ frames := 1, cells := 0, slots := 0, locals := 13 } : Room)) (fun a U => a = #[(.ref a1)] ∧ Z.Warmed39 U.vm ∧ U.heap = h0) (fun _ _ _ _ _ => True) (fun _ U o U' => ∃ v L, o = .returned v ∧ Q13 Z a1 cs w_value_a1 k_w_value_a1 xs nn h0 n0 v U'.heap L ∧ FrameEnd U o U' L ({ frames := 1, cells := 0, slots := 0, locals := 13 } : Room).cells ({ frames := 1, cells := 0, slots := 0, locals := 13 } : Room).slots) := by
  refine MetFree.of_bodySF (plainFor_of_name pn_13) hisR ?_
  intro p e s m args below meth c s₁ Bd hml0 hP hK
  obtain ⟨rfl, hZ, hh⟩ := hP
  have hx := Bd.exec
  have hby := Bd.bytes
  have hml : c.maxLocals = 1 := hml0
  have hown : s.vm.findClass "java/lang/String" = some m.cls := findClass_of_methodNamed Bd.named
  have hnm := (name_of_methodNamed Bd.named Bd.method).1
  have X0 : Stand p l e ({ frames := 1, cells := 0, slots := 0, locals := 13 } : Room) s m #[(.ref a1)] below meth c s₁ [] 0 0 := Stand.of_body Bd
  have e0 : s₁.heap = h0 := by rw [← hh, Bd.state]; rfl
  have N0 := Fr.nil n0
  apply own_in
  refine own_pre (B := s₁.setTop (mkF m 0 #[.val (.ref a1)] [])) (fun t k => castTop (ef_13 m a1) k) ?_
  refine own_pre (B := s₁.setTop (mkF m 1 #[.val (.ref a1)] [(.ref a1)])) (fun t k => XS.aloadN X0.here hx rfl (hb hby d13_0) rfl rfl k) ?_
  obtain ⟨T2, X2, e2, st2⟩ := getF X0 hx hZ hown (host := "") (Or.inl (hw _ (ow 82 rfl))) Via.refl e0 F_value_a1 (g := (mkF m 1 #[.val (.ref a1)] [(.ref a1)])) rfl rfl (hb hby d13_1)
  refine own_pre (B := T2.setTop (mkF m 4 #[.val (.ref a1)] [(.ref w_value_a1)])) (fun t k => st2 t k) ?_
  obtain ⟨cl3, Ar3, -, S3, N3v, -, -⟩ := id V_w_value_a1
  refine own_pre (B := T2.setTop (mkF m 5 #[.val (.ref a1)] [(.int nn)])) (fun t k => X2.arraylength hx (by rw [e2]; exact Ar3.1) (State.isArrayOf_alike hZ.alike Ar3.2.1) (g := (mkF m 4 #[.val (.ref a1)] [(.ref w_value_a1)])) rfl rfl (hb hby d13_4) t (by rw [len_of S3 N3v]; exact k)) ?_
  refine own_pre (B := T2.setTop (mkF m 6 #[.val (.ref a1)] [(.ref a1), (.int nn)])) (fun t k => XS.aloadN X2.here hx rfl (hb hby d13_5) rfl rfl k) ?_
  obtain ⟨cq4, kq4, q4a, q4b, q4c⟩ := isOf hZ e2 E_a1
  obtain ⟨_, _, ⟨T4, L4, k4, n4⟩, -, X4, ⟨Lc4, hQ4, l4, y4, z4⟩, st4⟩ := X2.virtualBack hx (y := (⟨"java/lang/String", "coder", "()B"⟩ : MethodName)) (z := (⟨"java/lang/String", "coder", "()B"⟩ : MethodName)) hown (mvT hZ (hw _ (ow 83 rfl))) (mvT hZ (hw _ (ow 84 rfl))) (notFace_of_selects (args := #[]) (mvT hZ (hw _ (ow 86 rfl)))) (mvT hZ (hw _ (ow 86 rfl))) (mvT hZ (hw _ (ow 85 rfl))) (by decide) (backOf (W := 1) (rm14 l Z a0 hw [] a1 cs h0 n0 Z0 O0 SCS hcs F_coder_a1) hZ (hw _ (ow 87 rfl)) (hw _ (ow 1 rfl)) (by decide) (by decide)) q4a q4c (g := (mkF m 6 #[.val (.ref a1)] [(.ref a1), (.int nn)])) rfl (by rw [hml]; rfl) (Steps.refl _) (argsL := []) (rest := [(.int nn)]) (lenOf pd_0 rfl) rfl (by show 2 * 0 + _ ≤ _; exact Nat.le_of_eq rfl) (hb hby d13_6) (fun _ _ => ⟨rfl, e2, (by decide : 0 + 0 ≤ _), (by decide : 0 + 0 ≤ _)⟩)
  dsimp only [Pt.U, Pt.locs, Pt.cells, Pt.slots] at X4 l4 y4 z4 st4 hQ4
  subst l4 y4 z4
  obtain ⟨rfl, N4q, e4⟩ := hQ4
  have N4 := Fr.app N0 N4q
  obtain ⟨Lh5, Xh5, Nh5⟩ := own_hide X4 N4
  refine own_pre (B := T4.setTop (mkF m 9 #[.val (.ref a1)] [(.int (0 : Int32)), (.int nn)])) (fun t k => st4.trans k) ?_
  refine own_pre (B := T4.setTop (mkF m 10 #[.val (.ref a1)] [(.int nn)])) (fun t k => XS.ishr Xh5.here hx rfl (hb hby d13_9) rfl (by rw [own_ishr0]; exact k)) ?_
  obtain ⟨fsr6, hrr6, hrunr6, hendedr6, hWr6, hsamer6⟩ := Xh5.leave (v := some (.int nn)) (fun h => by rw [Bd.returns] at h; cases h)
  refine ⟨_, _, (retI Xh5 hx Bd.returns (hb hby d13_10) hrr6), hrunr6, hendedr6, _, _, rfl, ?_, ⟨_, rfl⟩, hWr6, hsamer6.mono (by decide) (by decide)⟩
  show Q13 Z a1 cs w_value_a1 k_w_value_a1 xs nn h0 n0 _ T4.heap _
  rw [e4]
  exact ⟨rfl, Nh5, rfl⟩
theorem d9_0 : decode jdk_68_method_68_code 0 = .ok (.getstatic 18, 3) := by decide +kernel
theorem d9_3 : decode jdk_68_method_68_code 3 = .ok (.ifCond .eq 14, 3) := by decide +kernel
theorem d9_6 : decode jdk_68_method_68_code 6 = .ok (.aload_n 0, 1) := by decide +kernel
theorem d9_7 : decode jdk_68_method_68_code 7 = .ok (.getfield 22, 3) := by decide +kernel
theorem d9_10 : decode jdk_68_method_68_code 10 = .ok (.ifCond .ne 7, 3) := by decide +kernel
theorem d9_13 : decode jdk_68_method_68_code 13 = .ok (.iconst 1, 1) := by decide +kernel
theorem d9_14 : decode jdk_68_method_68_code 14 = .ok (.goto 4, 3) := by decide +kernel
theorem d9_18 : decode jdk_68_method_68_code 18 = .ok (.ireturn, 1) := by decide +kernel
theorem pn_9 : plainName "java/lang/AbstractStringBuilder" = true := by first | (simp [plainName, overriddenIn]; done) | decide +kernel
theorem ef_9 (m : MethodId) (x0 : Addr) : entryFrame m #[(.ref x0)] 1 = mkF m 0 #[.val (.ref x0)] [] := by first | (simp [entryFrame, mkF, argsToLocals, Value.category]; done) | rfl
def Q9 (Z : State) (a1 : Addr) (cs : Int32) (h0 : Heap) (n0 : Nat) (v : Option Value) (h : Heap) (L : List Loc) : Prop := v = some (.int (1 : Int32)) ∧ Fr n0 L ∧ h = h0
set_option maxRecDepth 65536 in
set_option maxHeartbeats 40000000 in
theorem rm9 (l : Launch) (Z : State) (a0 : Array Value) (hw : ∀ d ∈ tables_1, d.before a0 Z = true) (ws : List Jvm.Cond) (a1 : Addr) (cs : Int32) (h0 : Heap) (n0 : Nat) (Z0 : n0 ≤ h0.size) (O0 : Old Z n0 h0) (SCS : Sta Z Z.heap "java/lang/String" "COMPACT_STRINGS" "Z" (.int cs)) (hcs : ¬ cs = (0 : Int32)) (F_coder_a1 : Fld Z h0 a1 "java/lang/AbstractStringBuilder" "coder" "B" (.int (0 : Int32))) :
    MetFree l (⟨"java/lang/AbstractStringBuilder", "isLatin1", "()Z"⟩ : MethodName) (head1 (Jvm.Cond.code (⟨"java/lang/AbstractStringBuilder", "isLatin1", "()Z"⟩ : MethodName) jdk_68_method_68_code 1 (some .boolean) :: ws) ({ frames := 0, cells := 0, slots := 0, locals := 0 } : Room)) (fun a U => a = #[(.ref a1)] ∧ Z.Warmed39 U.vm ∧ U.heap = h0) (fun _ _ _ _ _ => True) (fun _ U o U' => ∃ v L, o = .returned v ∧ Q9 Z a1 cs h0 n0 v U'.heap L ∧ FrameEnd U o U' L ({ frames := 0, cells := 0, slots := 0, locals := 0 } : Room).cells ({ frames := 0, cells := 0, slots := 0, locals := 0 } : Room).slots) := by
  refine MetFree.of_bodySF (plainFor_of_name pn_9) hisR ?_
  intro p e s m args below meth c s₁ Bd hml0 hP hK
  obtain ⟨rfl, hZ, hh⟩ := hP
  have hx := Bd.exec
  have hby := Bd.bytes
  have hml : c.maxLocals = 1 := hml0
  have hown : s.vm.findClass "java/lang/AbstractStringBuilder" = some m.cls := findClass_of_methodNamed Bd.named
  have hnm := (name_of_methodNamed Bd.named Bd.method).1
  have X0 : Stand p l e ({ frames := 0, cells := 0, slots := 0, locals := 0 } : Room) s m #[(.ref a1)] below meth c s₁ [] 0 0 := Stand.of_body Bd
  have e0 : s₁.heap = h0 := by rw [← hh, Bd.state]; rfl
  have N0 := Fr.nil n0
  apply own_in
  refine own_pre (B := s₁.setTop (mkF m 0 #[.val (.ref a1)] [])) (fun t k => castTop (ef_9 m a1) k) ?_
  obtain ⟨T2, X2, e2, st2⟩ := getS2 X0 hx hZ hown (host := "") (Or.inl (hw _ (ow 29 rfl))) Via.refl e0 (Sta.ext O0.2 SCS) (g := (mkF m 0 #[.val (.ref a1)] [])) rfl (hb hby d9_0)
  refine own_pre (B := T2.setTop (mkF m 3 #[.val (.ref a1)] [(.int cs)])) (fun t k => st2 t k) ?_
  refine own_pre (B := T2.setTop (mkF m 6 #[.val (.ref a1)] [])) (fun t k => XS.ifNo X2.here hx rfl (hb hby d9_3) rfl ((if0 _ _).trans (feq hcs).1) k) ?_
  refine own_pre (B := T2.setTop (mkF m 7 #[.val (.ref a1)] [(.ref a1)])) (fun t k => XS.aloadN X2.here hx rfl (hb hby d9_6) rfl rfl k) ?_
  obtain ⟨T3, X3, e3, st3⟩ := getF X2 hx hZ hown (host := "") (Or.inl (hw _ (ow 32 rfl))) Via.refl e2 F_coder_a1 (g := (mkF m 7 #[.val (.ref a1)] [(.ref a1)])) rfl rfl (hb hby d9_7)
  refine own_pre (B := T3.setTop (mkF m 10 #[.val (.ref a1)] [(.int (0 : Int32))])) (fun t k => st3 t k) ?_
  refine own_pre (B := T3.setTop (mkF m 13 #[.val (.ref a1)] [])) (fun t k => XS.ifNo X3.here hx rfl (hb hby d9_10) rfl ((if0 _ _).trans (teq (rfl : (0 : Int32) = (0 : Int32))).2) k) ?_
  refine own_pre (B := T3.setTop (mkF m 14 #[.val (.ref a1)] [(.int (1 : Int32))])) (fun t k => XS.iconst X3.here hx rfl (hb hby d9_13) k) ?_
  refine own_pre (B := T3.setTop (mkF m 18 #[.val (.ref a1)] [(.int (1 : Int32))])) (fun t k => XS.goto X3.here hx rfl (pc0 := 14) (pc' := 18) rfl (hb hby d9_14) (by decide) (by decide) k) ?_
  obtain ⟨fsr4, hrr4, hrunr4, hendedr4, hWr4, hsamer4⟩ := X3.leave (v := some (.int (1 : Int32))) (fun h => by rw [Bd.returns] at h; cases h)
  refine ⟨_, _, (retN X3 hx (t := .boolean) Bd.returns (by simp) (hb hby d9_18) hrr4), hrunr4, hendedr4, _, _, rfl, ?_, ⟨_, rfl⟩, hWr4, hsamer4.mono (by decide) (by decide)⟩
  show Q9 Z a1 cs h0 n0 _ T3.heap _
  rw [e3]
  exact ⟨rfl, N0, rfl⟩
theorem d24_0 : decode jdk_29_method_65_code 0 = .ok (.iload_n 0, 1) := by decide +kernel
theorem d24_1 : decode jdk_29_method_65_code 1 = .ok (.iload_n 1, 1) := by decide +kernel
theorem d24_2 : decode jdk_29_method_65_code 2 = .ok (.if_icmp .lt 7, 3) := by decide +kernel
theorem d24_5 : decode jdk_29_method_65_code 5 = .ok (.iload_n 0, 1) := by decide +kernel
theorem d24_6 : decode jdk_29_method_65_code 6 = .ok (.goto 4, 3) := by decide +kernel
theorem d24_9 : decode jdk_29_method_65_code 9 = .ok (.iload_n 1, 1) := by decide +kernel
theorem d24_10 : decode jdk_29_method_65_code 10 = .ok (.ireturn, 1) := by decide +kernel
theorem ef_24 (m : MethodId) (x0 : Int32) (x1 : Int32) : entryFrame m #[(.int x0), (.int x1)] 2 = mkF m 0 #[.val (.int x0), .val (.int x1)] [] := by first | (simp [entryFrame, mkF, argsToLocals, Value.category]; done) | rfl
def own_f24 (p1 : Int32) (p2 : Int32) : Int32 := (if p1 < p2 then p2 else p1)
def Q24 (Z : State) (p1 : Int32) (p2 : Int32) (h0 : Heap) (n0 : Nat) (v : Option Value) (h : Heap) (L : List Loc) : Prop := v = some (.int (own_f24 p1 p2)) ∧ Fr n0 L ∧ h = h0
set_option maxRecDepth 65536 in
set_option maxHeartbeats 40000000 in
theorem rm24 (l : Launch) (Z : State) (a0 : Array Value) (hw : ∀ d ∈ tables_1, d.before a0 Z = true) (ws : List Jvm.Cond) (p1 : Int32) (p2 : Int32) (h0 : Heap) (n0 : Nat) (Z0 : n0 ≤ h0.size) :
    MetFree l (⟨"java/lang/Math", "max", "(II)I"⟩ : MethodName) (head1 (Jvm.Cond.code (⟨"java/lang/Math", "max", "(II)I"⟩ : MethodName) jdk_29_method_65_code 2 (some .int) :: ws) ({ frames := 0, cells := 0, slots := 0, locals := 0 } : Room)) (fun a U => a = #[(.int p1), (.int p2)] ∧ Z.Warmed39 U.vm ∧ U.heap = h0) (fun _ _ _ _ _ => True) (fun _ U o U' => ∃ v L, o = .returned v ∧ Q24 Z p1 p2 h0 n0 v U'.heap L ∧ FrameEnd U o U' L ({ frames := 0, cells := 0, slots := 0, locals := 0 } : Room).cells ({ frames := 0, cells := 0, slots := 0, locals := 0 } : Room).slots) := by
  refine MetFree.of_bodySF (Jvm.Free.JP.mathPlain rfl (by decide +kernel)) hisR ?_
  intro p e s m args below meth c s₁ Bd hml0 hP hK
  obtain ⟨rfl, hZ, hh⟩ := hP
  have hx := Bd.exec
  have hby := Bd.bytes
  have hml : c.maxLocals = 2 := hml0
  have hown : s.vm.findClass "java/lang/Math" = some m.cls := findClass_of_methodNamed Bd.named
  have hnm := (name_of_methodNamed Bd.named Bd.method).1
  have X0 : Stand p l e ({ frames := 0, cells := 0, slots := 0, locals := 0 } : Room) s m #[(.int p1), (.int p2)] below meth c s₁ [] 0 0 := Stand.of_body Bd
  have e0 : s₁.heap = h0 := by rw [← hh, Bd.state]; rfl
  have N0 := Fr.nil n0
  apply own_in
  refine own_pre (B := s₁.setTop (mkF m 0 #[.val (.int p1), .val (.int p2)] [])) (fun t k => castTop (ef_24 m p1 p2) k) ?_
  refine own_pre (B := s₁.setTop (mkF m 1 #[.val (.int p1), .val (.int p2)] [(.int p1)])) (fun t k => XS.iloadN X0.here hx rfl (hb hby d24_0) rfl k) ?_
  refine own_pre (B := s₁.setTop (mkF m 2 #[.val (.int p1), .val (.int p2)] [(.int p2), (.int p1)])) (fun t k => XS.iloadN X0.here hx rfl (hb hby d24_1) rfl k) ?_
  by_cases hc2_3 : p1 < p2
  · refine own_pre (B := s₁.setTop (mkF m 9 #[.val (.int p1), .val (.int p2)] [])) (fun t k => XS.icmpYes X0.here hx rfl (pc0 := 2) (pc' := 9) rfl (hb hby d24_2) rfl (tlt hc2_3).1 (by decide) (by decide) k) ?_
    refine own_pre (B := s₁.setTop (mkF m 10 #[.val (.int p1), .val (.int p2)] [(.int p2)])) (fun t k => XS.iloadN X0.here hx rfl (hb hby d24_9) rfl k) ?_
    obtain ⟨fsr4, hrr4, hrunr4, hendedr4, hWr4, hsamer4⟩ := X0.leave (v := some (.int p2)) (fun h => by rw [Bd.returns] at h; cases h)
    refine ⟨_, _, (retI X0 hx Bd.returns (hb hby d24_10) hrr4), hrunr4, hendedr4, _, _, rfl, ?_, ⟨_, rfl⟩, hWr4, hsamer4.mono (by decide) (by decide)⟩
    show Q24 Z p1 p2 h0 n0 _ s₁.heap _
    rw [e0]
    exact ⟨(by unfold own_f24; rw [if_pos hc2_3]), N0, rfl⟩
  · refine own_pre (B := s₁.setTop (mkF m 5 #[.val (.int p1), .val (.int p2)] [])) (fun t k => XS.icmpNo X0.here hx rfl (hb hby d24_2) rfl (flt hc2_3).1 k) ?_
    refine own_pre (B := s₁.setTop (mkF m 6 #[.val (.int p1), .val (.int p2)] [(.int p1)])) (fun t k => XS.iloadN X0.here hx rfl (hb hby d24_5) rfl k) ?_
    refine own_pre (B := s₁.setTop (mkF m 10 #[.val (.int p1), .val (.int p2)] [(.int p1)])) (fun t k => XS.goto X0.here hx rfl (pc0 := 6) (pc' := 10) rfl (hb hby d24_6) (by decide) (by decide) k) ?_
    obtain ⟨fsr5, hrr5, hrunr5, hendedr5, hWr5, hsamer5⟩ := X0.leave (v := some (.int p1)) (fun h => by rw [Bd.returns] at h; cases h)
    refine ⟨_, _, (retI X0 hx Bd.returns (hb hby d24_10) hrr5), hrunr5, hendedr5, _, _, rfl, ?_, ⟨_, rfl⟩, hWr5, hsamer5.mono (by decide) (by decide)⟩
    show Q24 Z p1 p2 h0 n0 _ s₁.heap _
    rw [e0]
    exact ⟨(by unfold own_f24; rw [if_neg hc2_3]), N0, rfl⟩
theorem d26_0 : decode jdk_29_method_69_code 0 = .ok (.iload_n 0, 1) := by decide +kernel
theorem d26_1 : decode jdk_29_method_69_code 1 = .ok (.iload_n 1, 1) := by decide +kernel
theorem d26_2 : decode jdk_29_method_69_code 2 = .ok (.if_icmp .gt 7, 3) := by decide +kernel
theorem d26_5 : decode jdk_29_method_69_code 5 = .ok (.iload_n 0, 1) := by decide +kernel
theorem d26_6 : decode jdk_29_method_69_code 6 = .ok (.goto 4, 3) := by decide +kernel
theorem d26_9 : decode jdk_29_method_69_code 9 = .ok (.iload_n 1, 1) := by decide +kernel
theorem d26_10 : decode jdk_29_method_69_code 10 = .ok (.ireturn, 1) := by decide +kernel
theorem ef_26 (m : MethodId) (x0 : Int32) (x1 : Int32) : entryFrame m #[(.int x0), (.int x1)] 2 = mkF m 0 #[.val (.int x0), .val (.int x1)] [] := by first | (simp [entryFrame, mkF, argsToLocals, Value.category]; done) | rfl
def own_f26 (p1 : Int32) (p2 : Int32) : Int32 := (if p2 < p1 then p2 else p1)
def Q26 (Z : State) (p1 : Int32) (p2 : Int32) (h0 : Heap) (n0 : Nat) (v : Option Value) (h : Heap) (L : List Loc) : Prop := v = some (.int (own_f26 p1 p2)) ∧ Fr n0 L ∧ h = h0
set_option maxRecDepth 65536 in
set_option maxHeartbeats 40000000 in
theorem rm26 (l : Launch) (Z : State) (a0 : Array Value) (hw : ∀ d ∈ tables_1, d.before a0 Z = true) (ws : List Jvm.Cond) (p1 : Int32) (p2 : Int32) (h0 : Heap) (n0 : Nat) (Z0 : n0 ≤ h0.size) :
    MetFree l (⟨"java/lang/Math", "min", "(II)I"⟩ : MethodName) (head1 (Jvm.Cond.code (⟨"java/lang/Math", "min", "(II)I"⟩ : MethodName) jdk_29_method_69_code 2 (some .int) :: ws) ({ frames := 0, cells := 0, slots := 0, locals := 0 } : Room)) (fun a U => a = #[(.int p1), (.int p2)] ∧ Z.Warmed39 U.vm ∧ U.heap = h0) (fun _ _ _ _ _ => True) (fun _ U o U' => ∃ v L, o = .returned v ∧ Q26 Z p1 p2 h0 n0 v U'.heap L ∧ FrameEnd U o U' L ({ frames := 0, cells := 0, slots := 0, locals := 0 } : Room).cells ({ frames := 0, cells := 0, slots := 0, locals := 0 } : Room).slots) := by
  refine MetFree.of_bodySF (Jvm.Free.JP.mathPlain rfl (by decide +kernel)) hisR ?_
  intro p e s m args below meth c s₁ Bd hml0 hP hK
  obtain ⟨rfl, hZ, hh⟩ := hP
  have hx := Bd.exec
  have hby := Bd.bytes
  have hml : c.maxLocals = 2 := hml0
  have hown : s.vm.findClass "java/lang/Math" = some m.cls := findClass_of_methodNamed Bd.named
  have hnm := (name_of_methodNamed Bd.named Bd.method).1
  have X0 : Stand p l e ({ frames := 0, cells := 0, slots := 0, locals := 0 } : Room) s m #[(.int p1), (.int p2)] below meth c s₁ [] 0 0 := Stand.of_body Bd
  have e0 : s₁.heap = h0 := by rw [← hh, Bd.state]; rfl
  have N0 := Fr.nil n0
  apply own_in
  refine own_pre (B := s₁.setTop (mkF m 0 #[.val (.int p1), .val (.int p2)] [])) (fun t k => castTop (ef_26 m p1 p2) k) ?_
  refine own_pre (B := s₁.setTop (mkF m 1 #[.val (.int p1), .val (.int p2)] [(.int p1)])) (fun t k => XS.iloadN X0.here hx rfl (hb hby d26_0) rfl k) ?_
  refine own_pre (B := s₁.setTop (mkF m 2 #[.val (.int p1), .val (.int p2)] [(.int p2), (.int p1)])) (fun t k => XS.iloadN X0.here hx rfl (hb hby d26_1) rfl k) ?_
  by_cases hc2_3 : p2 < p1
  · refine own_pre (B := s₁.setTop (mkF m 9 #[.val (.int p1), .val (.int p2)] [])) (fun t k => XS.icmpYes X0.here hx rfl (pc0 := 2) (pc' := 9) rfl (hb hby d26_2) rfl (tlt hc2_3).2.2.1 (by decide) (by decide) k) ?_
    refine own_pre (B := s₁.setTop (mkF m 10 #[.val (.int p1), .val (.int p2)] [(.int p2)])) (fun t k => XS.iloadN X0.here hx rfl (hb hby d26_9) rfl k) ?_
    obtain ⟨fsr4, hrr4, hrunr4, hendedr4, hWr4, hsamer4⟩ := X0.leave (v := some (.int p2)) (fun h => by rw [Bd.returns] at h; cases h)
    refine ⟨_, _, (retI X0 hx Bd.returns (hb hby d26_10) hrr4), hrunr4, hendedr4, _, _, rfl, ?_, ⟨_, rfl⟩, hWr4, hsamer4.mono (by decide) (by decide)⟩
    show Q26 Z p1 p2 h0 n0 _ s₁.heap _
    rw [e0]
    exact ⟨(by unfold own_f26; rw [if_pos hc2_3]), N0, rfl⟩
  · refine own_pre (B := s₁.setTop (mkF m 5 #[.val (.int p1), .val (.int p2)] [])) (fun t k => XS.icmpNo X0.here hx rfl (hb hby d26_2) rfl (flt hc2_3).2.2.1 k) ?_
    refine own_pre (B := s₁.setTop (mkF m 6 #[.val (.int p1), .val (.int p2)] [(.int p1)])) (fun t k => XS.iloadN X0.here hx rfl (hb hby d26_5) rfl k) ?_
    refine own_pre (B := s₁.setTop (mkF m 10 #[.val (.int p1), .val (.int p2)] [(.int p1)])) (fun t k => XS.goto X0.here hx rfl (pc0 := 6) (pc' := 10) rfl (hb hby d26_6) (by decide) (by decide) k) ?_
    obtain ⟨fsr5, hrr5, hrunr5, hendedr5, hWr5, hsamer5⟩ := X0.leave (v := some (.int p1)) (fun h => by rw [Bd.returns] at h; cases h)
    refine ⟨_, _, (retI X0 hx Bd.returns (hb hby d26_10) hrr5), hrunr5, hendedr5, _, _, rfl, ?_, ⟨_, rfl⟩, hWr5, hsamer5.mono (by decide) (by decide)⟩
    show Q26 Z p1 p2 h0 n0 _ s₁.heap _
    rw [e0]
    exact ⟨(by unfold own_f26; rw [if_neg hc2_3]), N0, rfl⟩
theorem pd_1 : parseMethodDescriptor "(II)I" = some ⟨[.int, .int], some .int⟩ := by decide +kernel
theorem d23_0 : decode jdk_48_method_27_code 0 = .ok (.iload_n 0, 1) := by decide +kernel
theorem d23_1 : decode jdk_48_method_27_code 1 = .ok (.iload_n 1, 1) := by decide +kernel
theorem d23_2 : decode jdk_48_method_27_code 2 = .ok (.iload_n 2, 1) := by decide +kernel
theorem d23_3 : decode jdk_48_method_27_code 3 = .ok (.invokestatic 194, 3) := by decide +kernel
theorem d23_6 : decode jdk_48_method_27_code 6 = .ok (.iadd, 1) := by decide +kernel
theorem d23_7 : decode jdk_48_method_27_code 7 = .ok (.istore_n 3, 1) := by decide +kernel
theorem d23_8 : decode jdk_48_method_27_code 8 = .ok (.iconst 0, 1) := by decide +kernel
theorem d23_9 : decode jdk_48_method_27_code 9 = .ok (.iload_n 3, 1) := by decide +kernel
theorem d23_10 : decode jdk_48_method_27_code 10 = .ok (.if_icmp .ge 11, 3) := by decide +kernel
theorem d23_13 : decode jdk_48_method_27_code 13 = .ok (.iload_n 3, 1) := by decide +kernel
theorem d23_14 : decode jdk_48_method_27_code 14 = .ok (.ldc 200, 2) := by decide +kernel
theorem d23_16 : decode jdk_48_method_27_code 16 = .ok (.if_icmp .gt 5, 3) := by decide +kernel
theorem d23_19 : decode jdk_48_method_27_code 19 = .ok (.iload_n 3, 1) := by decide +kernel
theorem d23_20 : decode jdk_48_method_27_code 20 = .ok (.ireturn, 1) := by decide +kernel
theorem pn_23 : plainName "jdk/internal/util/ArraysSupport" = true := by first | (simp [plainName, overriddenIn]; done) | decide +kernel
theorem ef_23 (m : MethodId) (x0 : Int32) (x1 : Int32) (x2 : Int32) : entryFrame m #[(.int x0), (.int x1), (.int x2)] 4 = mkF m 0 #[.val (.int x0), .val (.int x1), .val (.int x2), .unset] [] := by first | (simp [entryFrame, mkF, argsToLocals, Value.category]; done) | rfl
def own_f23 (p1 : Int32) (p2 : Int32) (p3 : Int32) : Int32 := (p1 + (own_f24 p2 p3))
def Q23 (Z : State) (p1 : Int32) (p2 : Int32) (p3 : Int32) (h0 : Heap) (n0 : Nat) (v : Option Value) (h : Heap) (L : List Loc) : Prop := v = some (.int (own_f23 p1 p2 p3)) ∧ Fr n0 L ∧ h = h0
set_option maxRecDepth 65536 in
set_option maxHeartbeats 40000000 in
theorem rm23 (l : Launch) (Z : State) (a0 : Array Value) (hw : ∀ d ∈ tables_1, d.before a0 Z = true) (ws : List Jvm.Cond) (p1 : Int32) (p2 : Int32) (p3 : Int32) (h0 : Heap) (n0 : Nat) (Z0 : n0 ≤ h0.size) (hp0 : (0 : Int32) < (p1 + (own_f24 p2 p3))) (hpm : ¬ (2147483639 : Int32) < (p1 + (own_f24 p2 p3))) :
    MetFree l (⟨"jdk/internal/util/ArraysSupport", "newLength", "(III)I"⟩ : MethodName) (head1 (Jvm.Cond.code (⟨"jdk/internal/util/ArraysSupport", "newLength", "(III)I"⟩ : MethodName) jdk_48_method_27_code 4 (some .int) :: ws) ({ frames := 1, cells := 0, slots := 0, locals := 14 } : Room)) (fun a U => a = #[(.int p1), (.int p2), (.int p3)] ∧ Z.Warmed39 U.vm ∧ U.heap = h0) (fun _ _ _ _ _ => True) (fun _ U o U' => ∃ v L, o = .returned v ∧ Q23 Z p1 p2 p3 h0 n0 v U'.heap L ∧ FrameEnd U o U' L ({ frames := 1, cells := 0, slots := 0, locals := 14 } : Room).cells ({ frames := 1, cells := 0, slots := 0, locals := 14 } : Room).slots) := by
  refine MetFree.of_bodySF (plainFor_of_name pn_23) hisR ?_
  intro p e s m args below meth c s₁ Bd hml0 hP hK
  obtain ⟨rfl, hZ, hh⟩ := hP
  have hx := Bd.exec
  have hby := Bd.bytes
  have hml : c.maxLocals = 4 := hml0
  have hown : s.vm.findClass "jdk/internal/util/ArraysSupport" = some m.cls := findClass_of_methodNamed Bd.named
  have hnm := (name_of_methodNamed Bd.named Bd.method).1
  have X0 : Stand p l e ({ frames := 1, cells := 0, slots := 0, locals := 14 } : Room) s m #[(.int p1), (.int p2), (.int p3)] below meth c s₁ [] 0 0 := Stand.of_body Bd
  have e0 : s₁.heap = h0 := by rw [← hh, Bd.state]; rfl
  have N0 := Fr.nil n0
  apply own_in
  refine own_pre (B := s₁.setTop (mkF m 0 #[.val (.int p1), .val (.int p2), .val (.int p3), .unset] [])) (fun t k => castTop (ef_23 m p1 p2 p3) k) ?_
  refine own_pre (B := s₁.setTop (mkF m 1 #[.val (.int p1), .val (.int p2), .val (.int p3), .unset] [(.int p1)])) (fun t k => XS.iloadN X0.here hx rfl (hb hby d23_0) rfl k) ?_
  refine own_pre (B := s₁.setTop (mkF m 2 #[.val (.int p1), .val (.int p2), .val (.int p3), .unset] [(.int p2), (.int p1)])) (fun t k => XS.iloadN X0.here hx rfl (hb hby d23_1) rfl k) ?_
  refine own_pre (B := s₁.setTop (mkF m 3 #[.val (.int p1), .val (.int p2), .val (.int p3), .unset] [(.int p3), (.int p2), (.int p1)])) (fun t k => XS.iloadN X0.here hx rfl (hb hby d23_2) rfl k) ?_
  obtain ⟨_, _, ⟨T4, L4, k4, n4⟩, -, X4, ⟨Lc4, hQ4, l4, y4, z4⟩, st4⟩ := Jvm.LawKit.callS X0 hx (y := (⟨"java/lang/Math", "max", "(II)I"⟩ : MethodName)) hown (mvT hZ (hw _ (ow 136 rfl))) (mvT hZ (hw _ (ow 137 rfl))) (mvT hZ (hw _ (ow 138 rfl))) (mvT hZ (hw _ (ow 139 rfl))) (by decide) (backOf (W := 1) (rm24 l Z a0 hw [] p2 p3 h0 n0 Z0 ) hZ (hw _ (ow 139 rfl)) (hw _ (ow 138 rfl)) (by decide) (by decide)) (g := (mkF m 3 #[.val (.int p1), .val (.int p2), .val (.int p3), .unset] [(.int p3), (.int p2), (.int p1)])) rfl (by rw [hml]; rfl) (argsL := [(.int p2), (.int p3)]) (rest := [(.int p1)]) (lenOf pd_1 rfl) rfl (by show 2 * 0 + _ ≤ _; exact Nat.le_of_eq rfl) (hb hby d23_3) (fun _ _ => ⟨rfl, e0, (by decide : 0 + 0 ≤ _), (by decide : 0 + 0 ≤ _)⟩)
  dsimp only [Pt.U, Pt.locs, Pt.cells, Pt.slots] at X4 l4 y4 z4 st4 hQ4
  subst l4 y4 z4
  obtain ⟨rfl, N4q, e4⟩ := hQ4
  have N4 := Fr.app N0 N4q
  obtain ⟨Lh5, Xh5, Nh5⟩ := own_hide X4 N4
  refine own_pre (B := T4.setTop (mkF m 6 #[.val (.int p1), .val (.int p2), .val (.int p3), .unset] [(.int (own_f24 p2 p3)), (.int p1)])) (fun t k => st4 t k) ?_
  refine own_pre (B := T4.setTop (mkF m 7 #[.val (.int p1), .val (.int p2), .val (.int p3), .unset] [(.int (p1 + (own_f24 p2 p3)))])) (fun t k => XS.iadd Xh5.here hx rfl (hb hby d23_6) rfl k) ?_
  refine own_pre (B := T4.setTop (mkF m 8 #[.val (.int p1), .val (.int p2), .val (.int p3), .val (.int (p1 + (own_f24 p2 p3)))] [])) (fun t k => XS.istoreN Xh5.here hx rfl (hb hby d23_7) rfl (l' := #[.val (.int p1), .val (.int p2), .val (.int p3), .val (.int (p1 + (own_f24 p2 p3)))]) rfl k) ?_
  refine own_pre (B := T4.setTop (mkF m 9 #[.val (.int p1), .val (.int p2), .val (.int p3), .val (.int (p1 + (own_f24 p2 p3)))] [(.int (0 : Int32))])) (fun t k => XS.iconst Xh5.here hx rfl (hb hby d23_8) k) ?_
  refine own_pre (B := T4.setTop (mkF m 10 #[.val (.int p1), .val (.int p2), .val (.int p3), .val (.int (p1 + (own_f24 p2 p3)))] [(.int (p1 + (own_f24 p2 p3))), (.int (0 : Int32))])) (fun t k => XS.iloadN Xh5.here hx rfl (hb hby d23_9) rfl k) ?_
  refine own_pre (B := T4.setTop (mkF m 13 #[.val (.int p1), .val (.int p2), .val (.int p3), .val (.int (p1 + (own_f24 p2 p3)))] [])) (fun t k => XS.icmpNo Xh5.here hx rfl (hb hby d23_10) rfl (tlt hp0).2.1 k) ?_
  refine own_pre (B := T4.setTop (mkF m 14 #[.val (.int p1), .val (.int p2), .val (.int p3), .val (.int (p1 + (own_f24 p2 p3)))] [(.int (p1 + (own_f24 p2 p3)))])) (fun t k => XS.iloadN Xh5.here hx rfl (hb hby d23_13) rfl k) ?_
  refine own_pre (B := T4.setTop (mkF m 16 #[.val (.int p1), .val (.int p2), .val (.int p3), .val (.int (p1 + (own_f24 p2 p3)))] [(.int (2147483639 : Int32)), (.int (p1 + (own_f24 p2 p3)))])) (fun t k => Xh5.ldcInt hx hown (mvT hZ (hw _ (ow 140 rfl))) (g := (mkF m 14 #[.val (.int p1), .val (.int p2), .val (.int p3), .val (.int (p1 + (own_f24 p2 p3)))] [(.int (p1 + (own_f24 p2 p3)))])) rfl (hb hby d23_14) _ k) ?_
  refine own_pre (B := T4.setTop (mkF m 19 #[.val (.int p1), .val (.int p2), .val (.int p3), .val (.int (p1 + (own_f24 p2 p3)))] [])) (fun t k => XS.icmpNo Xh5.here hx rfl (hb hby d23_16) rfl (flt hpm).2.2.1 k) ?_
  refine own_pre (B := T4.setTop (mkF m 20 #[.val (.int p1), .val (.int p2), .val (.int p3), .val (.int (p1 + (own_f24 p2 p3)))] [(.int (p1 + (own_f24 p2 p3)))])) (fun t k => XS.iloadN Xh5.here hx rfl (hb hby d23_19) rfl k) ?_
  obtain ⟨fsr6, hrr6, hrunr6, hendedr6, hWr6, hsamer6⟩ := Xh5.leave (v := some (.int (p1 + (own_f24 p2 p3)))) (fun h => by rw [Bd.returns] at h; cases h)
  refine ⟨_, _, (retI Xh5 hx Bd.returns (hb hby d23_20) hrr6), hrunr6, hendedr6, _, _, rfl, ?_, ⟨_, rfl⟩, hWr6, hsamer6.mono (by decide) (by decide)⟩
  show Q23 Z p1 p2 p3 h0 n0 _ T4.heap _
  rw [e4]
  exact ⟨rfl, Nh5, rfl⟩
theorem pd_2 : parseMethodDescriptor "(III)I" = some ⟨[.int, .int, .int], some .int⟩ := by decide +kernel
theorem d22_0 : decode jdk_68_method_10_code 0 = .ok (.aload_n 0, 1) := by decide +kernel
theorem d22_1 : decode jdk_68_method_10_code 1 = .ok (.getfield 15, 3) := by decide +kernel
theorem d22_4 : decode jdk_68_method_10_code 4 = .ok (.arraylength, 1) := by decide +kernel
theorem d22_5 : decode jdk_68_method_10_code 5 = .ok (.istore_n 2, 1) := by decide +kernel
theorem d22_6 : decode jdk_68_method_10_code 6 = .ok (.iload_n 1, 1) := by decide +kernel
theorem d22_7 : decode jdk_68_method_10_code 7 = .ok (.aload_n 0, 1) := by decide +kernel
theorem d22_8 : decode jdk_68_method_10_code 8 = .ok (.getfield 22, 3) := by decide +kernel
theorem d22_11 : decode jdk_68_method_10_code 11 = .ok (.ishl, 1) := by decide +kernel
theorem d22_12 : decode jdk_68_method_10_code 12 = .ok (.istore_n 3, 1) := by decide +kernel
theorem d22_13 : decode jdk_68_method_10_code 13 = .ok (.iload_n 3, 1) := by decide +kernel
theorem d22_14 : decode jdk_68_method_10_code 14 = .ok (.iload_n 2, 1) := by decide +kernel
theorem d22_15 : decode jdk_68_method_10_code 15 = .ok (.isub, 1) := by decide +kernel
theorem d22_16 : decode jdk_68_method_10_code 16 = .ok (.istore 4, 2) := by decide +kernel
theorem d22_18 : decode jdk_68_method_10_code 18 = .ok (.iload_n 2, 1) := by decide +kernel
theorem d22_19 : decode jdk_68_method_10_code 19 = .ok (.iload 4, 2) := by decide +kernel
theorem d22_21 : decode jdk_68_method_10_code 21 = .ok (.iload_n 2, 1) := by decide +kernel
theorem d22_22 : decode jdk_68_method_10_code 22 = .ok (.iconst 2, 1) := by decide +kernel
theorem d22_23 : decode jdk_68_method_10_code 23 = .ok (.aload_n 0, 1) := by decide +kernel
theorem d22_24 : decode jdk_68_method_10_code 24 = .ok (.getfield 22, 3) := by decide +kernel
theorem d22_27 : decode jdk_68_method_10_code 27 = .ok (.ishl, 1) := by decide +kernel
theorem d22_28 : decode jdk_68_method_10_code 28 = .ok (.iadd, 1) := by decide +kernel
theorem d22_29 : decode jdk_68_method_10_code 29 = .ok (.invokestatic 114, 3) := by decide +kernel
theorem d22_32 : decode jdk_68_method_10_code 32 = .ok (.istore 5, 2) := by decide +kernel
theorem d22_34 : decode jdk_68_method_10_code 34 = .ok (.iload 5, 2) := by decide +kernel
theorem d22_36 : decode jdk_68_method_10_code 36 = .ok (.ldc 39, 2) := by decide +kernel
theorem d22_38 : decode jdk_68_method_10_code 38 = .ok (.if_icmp .ne 13, 3) := by decide +kernel
theorem d22_51 : decode jdk_68_method_10_code 51 = .ok (.iload 5, 2) := by decide +kernel
theorem d22_53 : decode jdk_68_method_10_code 53 = .ok (.aload_n 0, 1) := by decide +kernel
theorem d22_54 : decode jdk_68_method_10_code 54 = .ok (.getfield 22, 3) := by decide +kernel
theorem d22_57 : decode jdk_68_method_10_code 57 = .ok (.ishr, 1) := by decide +kernel
theorem d22_58 : decode jdk_68_method_10_code 58 = .ok (.ireturn, 1) := by decide +kernel
theorem pn_22 : plainName "java/lang/AbstractStringBuilder" = true := by first | (simp [plainName, overriddenIn]; done) | decide +kernel
theorem ef_22 (m : MethodId) (x0 : Addr) (x1 : Int32) : entryFrame m #[(.ref x0), (.int x1)] 6 = mkF m 0 #[.val (.ref x0), .val (.int x1), .unset, .unset, .unset, .unset] [] := by first | (simp [entryFrame, mkF, argsToLocals, Value.category]; done) | rfl
def own_f22 (p2 : Int32) (nn : Int32) : Int32 := (own_f23 nn (p2 - nn) (nn + (2 : Int32)))
def Q22 (Z : State) (a1 : Addr) (p2 : Int32) (w_value_a1 : Addr) (k_w_value_a1 : ClassId) (xs : List Value) (nn : Int32) (h0 : Heap) (n0 : Nat) (v : Option Value) (h : Heap) (L : List Loc) : Prop := v = some (.int (own_f22 p2 nn)) ∧ Fr n0 L ∧ h = h0
set_option maxRecDepth 65536 in
set_option maxHeartbeats 40000000 in
theorem rm22 (l : Launch) (Z : State) (a0 : Array Value) (hw : ∀ d ∈ tables_1, d.before a0 Z = true) (ws : List Jvm.Cond) (a1 : Addr) (p2 : Int32) (w_value_a1 : Addr) (k_w_value_a1 : ClassId) (xs : List Value) (nn : Int32) (h0 : Heap) (n0 : Nat) (Z0 : n0 ≤ h0.size) (E_a1 : Exa Z h0 a1 "java/lang/StringBuilder") (F_coder_a1 : Fld Z h0 a1 "java/lang/AbstractStringBuilder" "coder" "B" (.int (0 : Int32))) (F_value_a1 : Fld Z h0 a1 "java/lang/AbstractStringBuilder" "value" "[B" (.ref w_value_a1)) (V_w_value_a1 : Arv Z h0 w_value_a1 k_w_value_a1 .byte nn xs (.int (0 : Int32))) (hp0 : (0 : Int32) < (nn + (own_f24 (p2 - nn) (nn + (2 : Int32))))) (hpm : ¬ (2147483639 : Int32) < (nn + (own_f24 (p2 - nn) (nn + (2 : Int32))))) (hmx : ¬ (own_f23 nn (p2 - nn) (nn + (2 : Int32))) = (2147483647 : Int32)) :
    MetFree l (⟨"java/lang/AbstractStringBuilder", "newCapacity", "(I)I"⟩ : MethodName) (head1 (Jvm.Cond.code (⟨"java/lang/AbstractStringBuilder", "newCapacity", "(I)I"⟩ : MethodName) jdk_68_method_10_code 6 (some .int) :: ws) ({ frames := 2, cells := 0, slots := 0, locals := 29 } : Room)) (fun a U => a = #[(.ref a1), (.int p2)] ∧ Z.Warmed39 U.vm ∧ U.heap = h0) (fun _ _ _ _ _ => True) (fun _ U o U' => ∃ v L, o = .returned v ∧ Q22 Z a1 p2 w_value_a1 k_w_value_a1 xs nn h0 n0 v U'.heap L ∧ FrameEnd U o U' L ({ frames := 2, cells := 0, slots := 0, locals := 29 } : Room).cells ({ frames := 2, cells := 0, slots := 0, locals := 29 } : Room).slots) := by
  refine MetFree.of_bodySF (plainFor_of_name pn_22) hisR ?_
  intro p e s m args below meth c s₁ Bd hml0 hP hK
  obtain ⟨rfl, hZ, hh⟩ := hP
  have hx := Bd.exec
  have hby := Bd.bytes
  have hml : c.maxLocals = 6 := hml0
  have hown : s.vm.findClass "java/lang/AbstractStringBuilder" = some m.cls := findClass_of_methodNamed Bd.named
  have hnm := (name_of_methodNamed Bd.named Bd.method).1
  have X0 : Stand p l e ({ frames := 2, cells := 0, slots := 0, locals := 29 } : Room) s m #[(.ref a1), (.int p2)] below meth c s₁ [] 0 0 := Stand.of_body Bd
  have e0 : s₁.heap = h0 := by rw [← hh, Bd.state]; rfl
  have N0 := Fr.nil n0
  apply own_in
  refine own_pre (B := s₁.setTop (mkF m 0 #[.val (.ref a1), .val (.int p2), .unset, .unset, .unset, .unset] [])) (fun t k => castTop (ef_22 m a1 p2) k) ?_
  refine own_pre (B := s₁.setTop (mkF m 1 #[.val (.ref a1), .val (.int p2), .unset, .unset, .unset, .unset] [(.ref a1)])) (fun t k => XS.aloadN X0.here hx rfl (hb hby d22_0) rfl rfl k) ?_
  obtain ⟨T3, X3, e3, st3⟩ := getF X0 hx hZ hown (host := "") (Or.inl (hw _ (ow 30 rfl))) Via.refl e0 F_value_a1 (g := (mkF m 1 #[.val (.ref a1), .val (.int p2), .unset, .unset, .unset, .unset] [(.ref a1)])) rfl rfl (hb hby d22_1)
  refine own_pre (B := T3.setTop (mkF m 4 #[.val (.ref a1), .val (.int p2), .unset, .unset, .unset, .unset] [(.ref w_value_a1)])) (fun t k => st3 t k) ?_
  obtain ⟨cl4, Ar4, -, S4, N4v, -, -⟩ := id V_w_value_a1
  refine own_pre (B := T3.setTop (mkF m 5 #[.val (.ref a1), .val (.int p2), .unset, .unset, .unset, .unset] [(.int nn)])) (fun t k => X3.arraylength hx (by rw [e3]; exact Ar4.1) (State.isArrayOf_alike hZ.alike Ar4.2.1) (g := (mkF m 4 #[.val (.ref a1), .val (.int p2), .unset, .unset, .unset, .unset] [(.ref w_value_a1)])) rfl rfl (hb hby d22_4) t (by rw [len_of S4 N4v]; exact k)) ?_
  refine own_pre (B := T3.setTop (mkF m 6 #[.val (.ref a1), .val (.int p2), .val (.int nn), .unset, .unset, .unset] [])) (fun t k => XS.istoreN X3.here hx rfl (hb hby d22_5) rfl (l' := #[.val (.ref a1), .val (.int p2), .val (.int nn), .unset, .unset, .unset]) rfl k) ?_
  refine own_pre (B := T3.setTop (mkF m 7 #[.val (.ref a1), .val (.int p2), .val (.int nn), .unset, .unset, .unset] [(.int p2)])) (fun t k => XS.iloadN X3.here hx rfl (hb hby d22_6) rfl k) ?_
  refine own_pre (B := T3.setTop (mkF m 8 #[.val (.ref a1), .val (.int p2), .val (.int nn), .unset, .unset, .unset] [(.ref a1), (.int p2)])) (fun t k => XS.aloadN X3.here hx rfl (hb hby d22_7) rfl rfl k) ?_
  obtain ⟨T5, X5, e5, st5⟩ := getF X3 hx hZ hown (host := "") (Or.inl (hw _ (ow 32 rfl))) Via.refl e3 F_coder_a1 (g := (mkF m 8 #[.val (.ref a1), .val (.int p2), .val (.int nn), .unset, .unset, .unset] [(.ref a1), (.int p2)])) rfl rfl (hb hby d22_8)
  refine own_pre (B := T5.setTop (mkF m 11 #[.val (.ref a1), .val (.int p2), .val (.int nn), .unset, .unset, .unset] [(.int (0 : Int32)), (.int p2)])) (fun t k => st5 t k) ?_
  refine own_pre (B := T5.setTop (mkF m 12 #[.val (.ref a1), .val (.int p2), .val (.int nn), .unset, .unset, .unset] [(.int p2)])) (fun t k => XS.ishl X5.here hx rfl (hb hby d22_11) rfl (by rw [own_ishl0]; exact k)) ?_
  refine own_pre (B := T5.setTop (mkF m 13 #[.val (.ref a1), .val (.int p2), .val (.int nn), .val (.int p2), .unset, .unset] [])) (fun t k => XS.istoreN X5.here hx rfl (hb hby d22_12) rfl (l' := #[.val (.ref a1), .val (.int p2), .val (.int nn), .val (.int p2), .unset, .unset]) rfl k) ?_
  refine own_pre (B := T5.setTop (mkF m 14 #[.val (.ref a1), .val (.int p2), .val (.int nn), .val (.int p2), .unset, .unset] [(.int p2)])) (fun t k => XS.iloadN X5.here hx rfl (hb hby d22_13) rfl k) ?_
  refine own_pre (B := T5.setTop (mkF m 15 #[.val (.ref a1), .val (.int p2), .val (.int nn), .val (.int p2), .unset, .unset] [(.int nn), (.int p2)])) (fun t k => XS.iloadN X5.here hx rfl (hb hby d22_14) rfl k) ?_
  refine own_pre (B := T5.setTop (mkF m 16 #[.val (.ref a1), .val (.int p2), .val (.int nn), .val (.int p2), .unset, .unset] [(.int (p2 - nn))])) (fun t k => XS.isub X5.here hx rfl (hb hby d22_15) rfl k) ?_
  refine own_pre (B := T5.setTop (mkF m 18 #[.val (.ref a1), .val (.int p2), .val (.int nn), .val (.int p2), .val (.int (p2 - nn)), .unset] [])) (fun t k => XS.istore X5.here hx rfl (hb hby d22_16) rfl (l' := #[.val (.ref a1), .val (.int p2), .val (.int nn), .val (.int p2), .val (.int (p2 - nn)), .unset]) rfl k) ?_
  refine own_pre (B := T5.setTop (mkF m 19 #[.val (.ref a1), .val (.int p2), .val (.int nn), .val (.int p2), .val (.int (p2 - nn)), .unset] [(.int nn)])) (fun t k => XS.iloadN X5.here hx rfl (hb hby d22_18) rfl k) ?_
  refine own_pre (B := T5.setTop (mkF m 21 #[.val (.ref a1), .val (.int p2), .val (.int nn), .val (.int p2), .val (.int (p2 - nn)), .unset] [(.int (p2 - nn)), (.int nn)])) (fun t k => XS.iload X5.here hx rfl (hb hby d22_19) rfl k) ?_
  refine own_pre (B := T5.setTop (mkF m 22 #[.val (.ref a1), .val (.int p2), .val (.int nn), .val (.int p2), .val (.int (p2 - nn)), .unset] [(.int nn), (.int (p2 - nn)), (.int nn)])) (fun t k => XS.iloadN X5.here hx rfl (hb hby d22_21) rfl k) ?_
  refine own_pre (B := T5.setTop (mkF m 23 #[.val (.ref a1), .val (.int p2), .val (.int nn), .val (.int p2), .val (.int (p2 - nn)), .unset] [(.int (2 : Int32)), (.int nn), (.int (p2 - nn)), (.int nn)])) (fun t k => XS.iconst X5.here hx rfl (hb hby d22_22) k) ?_
  refine own_pre (B := T5.setTop (mkF m 24 #[.val (.ref a1), .val (.int p2), .val (.int nn), .val (.int p2), .val (.int (p2 - nn)), .unset] [(.ref a1), (.int (2 : Int32)), (.int nn), (.int (p2 - nn)), (.int nn)])) (fun t k => XS.aloadN X5.here hx rfl (hb hby d22_23) rfl rfl k) ?_
  obtain ⟨T6, X6, e6, st6⟩ := getF X5 hx hZ hown (host := "") (Or.inl (hw _ (ow 32 rfl))) Via.refl e5 F_coder_a1 (g := (mkF m 24 #[.val (.ref a1), .val (.int p2), .val (.int nn), .val (.int p2), .val (.int (p2 - nn)), .unset] [(.ref a1), (.int (2 : Int32)), (.int nn), (.int (p2 - nn)), (.int nn)])) rfl rfl (hb hby d22_24)
  refine own_pre (B := T6.setTop (mkF m 27 #[.val (.ref a1), .val (.int p2), .val (.int nn), .val (.int p2), .val (.int (p2 - nn)), .unset] [(.int (0 : Int32)), (.int (2 : Int32)), (.int nn), (.int (p2 - nn)), (.int nn)])) (fun t k => st6 t k) ?_
  refine own_pre (B := T6.setTop (mkF m 28 #[.val (.ref a1), .val (.int p2), .val (.int nn), .val (.int p2), .val (.int (p2 - nn)), .unset] [(.int (2 : Int32)), (.int nn), (.int (p2 - nn)), (.int nn)])) (fun t k => XS.ishl X6.here hx rfl (hb hby d22_27) rfl k) ?_
  refine own_pre (B := T6.setTop (mkF m 29 #[.val (.ref a1), .val (.int p2), .val (.int nn), .val (.int p2), .val (.int (p2 - nn)), .unset] [(.int (nn + (2 : Int32))), (.int (p2 - nn)), (.int nn)])) (fun t k => XS.iadd X6.here hx rfl (hb hby d22_28) rfl k) ?_
  obtain ⟨_, _, ⟨T7, L7, k7, n7⟩, -, X7, ⟨Lc7, hQ7, l7, y7, z7⟩, st7⟩ := Jvm.LawKit.callS X6 hx (y := (⟨"jdk/internal/util/ArraysSupport", "newLength", "(III)I"⟩ : MethodName)) hown (mvT hZ (hw _ (ow 132 rfl))) (mvT hZ (hw _ (ow 133 rfl))) (mvT hZ (hw _ (ow 134 rfl))) (mvT hZ (hw _ (ow 135 rfl))) (by decide) (backOf (W := 0) (rm23 l Z a0 hw [] nn (p2 - nn) (nn + (2 : Int32)) h0 n0 Z0 hp0 hpm) hZ (hw _ (ow 135 rfl)) (hw _ (ow 134 rfl)) (by decide) (by decide)) (g := (mkF m 29 #[.val (.ref a1), .val (.int p2), .val (.int nn), .val (.int p2), .val (.int (p2 - nn)), .unset] [(.int (nn + (2 : Int32))), (.int (p2 - nn)), (.int nn)])) rfl (by rw [hml]; rfl) (argsL := [(.int nn), (.int (p2 - nn)), (.int (nn + (2 : Int32)))]) (rest := []) (lenOf pd_2 rfl) rfl (by show 2 * 0 + _ ≤ _; exact Nat.le_of_eq rfl) (hb hby d22_29) (fun _ _ => ⟨rfl, e6, (by decide : 0 + 0 ≤ _), (by decide : 0 + 0 ≤ _)⟩)
  dsimp only [Pt.U, Pt.locs, Pt.cells, Pt.slots] at X7 l7 y7 z7 st7 hQ7
  subst l7 y7 z7
  obtain ⟨rfl, N7q, e7⟩ := hQ7
  have N7 := Fr.app N0 N7q
  obtain ⟨Lh8, Xh8, Nh8⟩ := own_hide X7 N7
  refine own_pre (B := T7.setTop (mkF m 32 #[.val (.ref a1), .val (.int p2), .val (.int nn), .val (.int p2), .val (.int (p2 - nn)), .unset] [(.int (own_f23 nn (p2 - nn) (nn + (2 : Int32))))])) (fun t k => st7 t k) ?_
  refine own_pre (B := T7.setTop (mkF m 34 #[.val (.ref a1), .val (.int p2), .val (.int nn), .val (.int p2), .val (.int (p2 - nn)), .val (.int (own_f23 nn (p2 - nn) (nn + (2 : Int32))))] [])) (fun t k => XS.istore Xh8.here hx rfl (hb hby d22_32) rfl (l' := #[.val (.ref a1), .val (.int p2), .val (.int nn), .val (.int p2), .val (.int (p2 - nn)), .val (.int (own_f23 nn (p2 - nn) (nn + (2 : Int32))))]) rfl k) ?_
  refine own_pre (B := T7.setTop (mkF m 36 #[.val (.ref a1), .val (.int p2), .val (.int nn), .val (.int p2), .val (.int (p2 - nn)), .val (.int (own_f23 nn (p2 - nn) (nn + (2 : Int32))))] [(.int (own_f23 nn (p2 - nn) (nn + (2 : Int32))))])) (fun t k => XS.iload Xh8.here hx rfl (hb hby d22_34) rfl k) ?_
  refine own_pre (B := T7.setTop (mkF m 38 #[.val (.ref a1), .val (.int p2), .val (.int nn), .val (.int p2), .val (.int (p2 - nn)), .val (.int (own_f23 nn (p2 - nn) (nn + (2 : Int32))))] [(.int (2147483647 : Int32)), (.int (own_f23 nn (p2 - nn) (nn + (2 : Int32))))])) (fun t k => Xh8.ldcInt hx hown (mvT hZ (hw _ (ow 141 rfl))) (g := (mkF m 36 #[.val (.ref a1), .val (.int p2), .val (.int nn), .val (.int p2), .val (.int (p2 - nn)), .val (.int (own_f23 nn (p2 - nn) (nn + (2 : Int32))))] [(.int (own_f23 nn (p2 - nn) (nn + (2 : Int32))))])) rfl (hb hby d22_36) _ k) ?_
  refine own_pre (B := T7.setTop (mkF m 51 #[.val (.ref a1), .val (.int p2), .val (.int nn), .val (.int p2), .val (.int (p2 - nn)), .val (.int (own_f23 nn (p2 - nn) (nn + (2 : Int32))))] [])) (fun t k => XS.icmpYes Xh8.here hx rfl (pc0 := 38) (pc' := 51) rfl (hb hby d22_38) rfl (feq hmx).2 (by decide) (by decide) k) ?_
  refine own_pre (B := T7.setTop (mkF m 53 #[.val (.ref a1), .val (.int p2), .val (.int nn), .val (.int p2), .val (.int (p2 - nn)), .val (.int (own_f23 nn (p2 - nn) (nn + (2 : Int32))))] [(.int (own_f23 nn (p2 - nn) (nn + (2 : Int32))))])) (fun t k => XS.iload Xh8.here hx rfl (hb hby d22_51) rfl k) ?_
  refine own_pre (B := T7.setTop (mkF m 54 #[.val (.ref a1), .val (.int p2), .val (.int nn), .val (.int p2), .val (.int (p2 - nn)), .val (.int (own_f23 nn (p2 - nn) (nn + (2 : Int32))))] [(.ref a1), (.int (own_f23 nn (p2 - nn) (nn + (2 : Int32))))])) (fun t k => XS.aloadN Xh8.here hx rfl (hb hby d22_53) rfl rfl k) ?_
  obtain ⟨T9, X9, e9, st9⟩ := getF Xh8 hx hZ hown (host := "") (Or.inl (hw _ (ow 32 rfl))) Via.refl e7 F_coder_a1 (g := (mkF m 54 #[.val (.ref a1), .val (.int p2), .val (.int nn), .val (.int p2), .val (.int (p2 - nn)), .val (.int (own_f23 nn (p2 - nn) (nn + (2 : Int32))))] [(.ref a1), (.int (own_f23 nn (p2 - nn) (nn + (2 : Int32))))])) rfl rfl (hb hby d22_54)
  refine own_pre (B := T9.setTop (mkF m 57 #[.val (.ref a1), .val (.int p2), .val (.int nn), .val (.int p2), .val (.int (p2 - nn)), .val (.int (own_f23 nn (p2 - nn) (nn + (2 : Int32))))] [(.int (0 : Int32)), (.int (own_f23 nn (p2 - nn) (nn + (2 : Int32))))])) (fun t k => st9 t k) ?_
  refine own_pre (B := T9.setTop (mkF m 58 #[.val (.ref a1), .val (.int p2), .val (.int nn), .val (.int p2), .val (.int (p2 - nn)), .val (.int (own_f23 nn (p2 - nn) (nn + (2 : Int32))))] [(.int (own_f23 nn (p2 - nn) (nn + (2 : Int32))))])) (fun t k => XS.ishr X9.here hx rfl (hb hby d22_57) rfl (by rw [own_ishr0]; exact k)) ?_
  obtain ⟨fsr10, hrr10, hrunr10, hendedr10, hWr10, hsamer10⟩ := X9.leave (v := some (.int (own_f23 nn (p2 - nn) (nn + (2 : Int32))))) (fun h => by rw [Bd.returns] at h; cases h)
  refine ⟨_, _, (retI X9 hx Bd.returns (hb hby d22_58) hrr10), hrunr10, hendedr10, _, _, rfl, ?_, ⟨_, rfl⟩, hWr10, hsamer10.mono (by decide) (by decide)⟩
  show Q22 Z a1 p2 w_value_a1 k_w_value_a1 xs nn h0 n0 _ T9.heap _
  rw [e9]
  exact ⟨rfl, Nh8, rfl⟩
theorem own_nn0 {Z : State} {h : Heap} {a : Addr} {k : ClassId} {ty : FieldType} {n : Int32} {vs : List Value} {d : Value} (A : Arv Z h a k ty n vs d) : ¬ n < 0 := by obtain ⟨_, _, _, _, q, _, _⟩ := A; exact q
theorem own_min {a b : Int32} (ha : ¬ a < 0) (hb : ¬ b < 0) : ¬ own_f26 a b < 0 ∧ (0 : Int32).toNatClampNeg + (own_f26 a b).toNatClampNeg ≤ a.toNatClampNeg ∧ (0 : Int32).toNatClampNeg + (own_f26 a b).toNatClampNeg ≤ b.toNatClampNeg := by
  have e0 : (0 : Int32).toInt = 0 := by decide
  have e1 : (0 : Int32).toNatClampNeg = 0 := by decide
  unfold own_f26
  split <;> rename_i q <;> simp only [Int32.lt_iff_toInt_lt, Int32.toNatClampNeg, e0] at * <;> refine ⟨?_, ?_, ?_⟩ <;> omega
def own_C (N m : Int32) : Prop := 16 ≤ N.toInt ∧ N.toInt ≤ 172 ∧ 0 ≤ m.toInt ∧ m.toInt ≤ 85
def own_P (N m : Int32) : Prop := 16 ≤ N.toInt ∧ N.toInt ≤ 172 ∧ m.toInt ≤ N.toInt
theorem own_mx (a b : Int32) : a.toInt ≤ (own_f24 a b).toInt ∧ b.toInt ≤ (own_f24 a b).toInt ∧ ((own_f24 a b).toInt = a.toInt ∨ (own_f24 a b).toInt = b.toInt) := by
  unfold own_f24; split <;> rename_i h <;> rw [Int32.lt_iff_toInt_lt] at h <;> omega
theorem own_sub {N m : Int32} (h : own_C N m) : (m - N).toInt = m.toInt - N.toInt := by
  obtain ⟨h1, h2, h3, h4⟩ := h
  rw [Int32.toInt_sub]; exact Int.bmod_eq_of_le (by omega) (by omega)
theorem own_kept {N m : Int32} (h : own_C N m) (q : ¬ (0 : Int32) < m - N) : own_P N m := by
  have e := own_sub h
  obtain ⟨h1, h2, h3, h4⟩ := h
  rw [Int32.lt_iff_toInt_lt, e, show (0 : Int32).toInt = 0 by decide] at q
  exact ⟨h1, h2, by omega⟩
theorem own_grow {N m : Int32} (h : own_C N m) (q : (0 : Int32) < m - N) : 16 ≤ (N + (own_f24 (m - N) (N + (2 : Int32)))).toInt ∧ (N + (own_f24 (m - N) (N + (2 : Int32)))).toInt ≤ 172 ∧ m.toInt ≤ (N + (own_f24 (m - N) (N + (2 : Int32)))).toInt ∧ N.toInt < (N + (own_f24 (m - N) (N + (2 : Int32)))).toInt := by
  have e := own_sub h
  obtain ⟨h1, h2, h3, h4⟩ := h
  have a2 : (N + (2 : Int32)).toInt = N.toInt + 2 := by
    rw [Int32.toInt_add, show (2 : Int32).toInt = 2 by decide]; exact Int.bmod_eq_of_le (by omega) (by omega)
  have x := own_mx (m - N) (N + (2 : Int32))
  rw [Int32.lt_iff_toInt_lt, e, show (0 : Int32).toInt = 0 by decide] at q
  have s : (N + (own_f24 (m - N) (N + (2 : Int32)))).toInt = N.toInt + (own_f24 (m - N) (N + (2 : Int32))).toInt := by
    rw [Int32.toInt_add]; exact Int.bmod_eq_of_le (by omega) (by omega)
  refine ⟨?_, ?_, ?_, ?_⟩ <;> omega
theorem own_f22e (m N : Int32) : own_f22 m N = (N + (own_f24 (m - N) (N + (2 : Int32)))) := rfl
theorem own_cap {N m : Int32} (h : own_C N m) (q : (0 : Int32) < m - N) : (0 : Int32) < (N + (own_f24 (m - N) (N + (2 : Int32)))) ∧ ¬ (2147483639 : Int32) < (N + (own_f24 (m - N) (N + (2 : Int32)))) ∧ ¬ (own_f23 N (m - N) (N + (2 : Int32))) = (2147483647 : Int32) ∧ ¬ (own_f22 m N) = N ∧ ¬ (own_f22 m N) < 0 ∧ (own_f22 m N).toNatClampNeg ≤ 172 ∧ own_P (own_f22 m N) m := by
  have g := own_grow h q
  have h' := h
  obtain ⟨h1, h2, h3, h4⟩ := h'
  rw [own_f22e]
  have e3 : own_f23 N (m - N) (N + (2 : Int32)) = (N + (own_f24 (m - N) (N + (2 : Int32)))) := rfl
  rw [e3]
  generalize (N + (own_f24 (m - N) (N + (2 : Int32)))) = L at g ⊢
  have c1 : (2147483639 : Int32).toInt = 2147483639 := by decide
  have c2 : (2147483647 : Int32).toInt = 2147483647 := by decide
  have c0 : (0 : Int32).toInt = 0 := by decide
  simp only [Int32.lt_iff_toInt_lt, ← Int32.toInt_inj, Int32.toNatClampNeg, own_P]
  refine ⟨?_, ?_, ?_, ?_, ?_, ?_, ?_, ?_, ?_⟩ <;> omega
theorem d25_0 : decode jdk_65_method_121_code 0 = .ok (.iload_n 1, 1) := by decide +kernel
theorem d25_1 : decode jdk_65_method_121_code 1 = .ok (.aload_n 0, 1) := by decide +kernel
theorem d25_2 : decode jdk_65_method_121_code 2 = .ok (.arraylength, 1) := by decide +kernel
theorem d25_3 : decode jdk_65_method_121_code 3 = .ok (.if_icmp .ne 11, 3) := by decide +kernel
theorem d25_14 : decode jdk_65_method_121_code 14 = .ok (.iload_n 1, 1) := by decide +kernel
theorem d25_15 : decode jdk_65_method_121_code 15 = .ok (.newarray .byte, 2) := by decide +kernel
theorem d25_17 : decode jdk_65_method_121_code 17 = .ok (.astore_n 2, 1) := by decide +kernel
theorem d25_18 : decode jdk_65_method_121_code 18 = .ok (.aload_n 0, 1) := by decide +kernel
theorem d25_19 : decode jdk_65_method_121_code 19 = .ok (.iconst 0, 1) := by decide +kernel
theorem d25_20 : decode jdk_65_method_121_code 20 = .ok (.aload_n 2, 1) := by decide +kernel
theorem d25_21 : decode jdk_65_method_121_code 21 = .ok (.iconst 0, 1) := by decide +kernel
theorem d25_22 : decode jdk_65_method_121_code 22 = .ok (.aload_n 0, 1) := by decide +kernel
theorem d25_23 : decode jdk_65_method_121_code 23 = .ok (.arraylength, 1) := by decide +kernel
theorem d25_24 : decode jdk_65_method_121_code 24 = .ok (.iload_n 1, 1) := by decide +kernel
theorem d25_25 : decode jdk_65_method_121_code 25 = .ok (.invokestatic 304, 3) := by decide +kernel
theorem d25_28 : decode jdk_65_method_121_code 28 = .ok (.invokestatic 150, 3) := by decide +kernel
theorem d25_31 : decode jdk_65_method_121_code 31 = .ok (.aload_n 2, 1) := by decide +kernel
theorem d25_32 : decode jdk_65_method_121_code 32 = .ok (.areturn, 1) := by decide +kernel
theorem pn_25 : plainName "java/util/Arrays" = true := by first | (simp [plainName, overriddenIn]; done) | decide +kernel
theorem ef_25 (m : MethodId) (x0 : Addr) (x1 : Int32) : entryFrame m #[(.ref x0), (.int x1)] 3 = mkF m 0 #[.val (.ref x0), .val (.int x1), .unset] [] := by first | (simp [entryFrame, mkF, argsToLocals, Value.category]; done) | rfl
def Q25 (Z : State) (a1 : Addr) (p2 : Int32) (k_a1 : ClassId) (xs : List Value) (nn : Int32) (h0 : Heap) (n0 : Nat) (v : Option Value) (h : Heap) (L : List Loc) : Prop := ∃ (b5 : Addr) (k5 : ClassId) (ub0 : List Value), v = some (.ref b5) ∧ Fr n0 L ∧ Keep h0 h [] ∧ n0 ≤ b5 ∧ h0.size ≤ b5 ∧ Exa Z h b5 "[B" ∧ Arv Z h b5 k5 .byte p2 ub0 (.int (0 : Int32))
set_option maxRecDepth 65536 in
set_option maxHeartbeats 40000000 in
theorem rm25 (l : Launch) (Z : State) (a0 : Array Value) (hw : ∀ d ∈ tables_1, d.before a0 Z = true) (ws : List Jvm.Cond) (a1 : Addr) (p2 : Int32) (k_a1 : ClassId) (xs : List Value) (nn : Int32) (h0 : Heap) (n0 : Nat) (Z0 : n0 ≤ h0.size) (V_a1 : Arv Z h0 a1 k_a1 .byte nn xs (.int (0 : Int32))) (hne : ¬ p2 = nn) (hp : ¬ p2 < 0) (hcap : p2.toNatClampNeg ≤ 172) :
    MetFree l (⟨"java/util/Arrays", "copyOf", "([BI)[B"⟩ : MethodName) (head1 (Jvm.Cond.code (⟨"java/util/Arrays", "copyOf", "([BI)[B"⟩ : MethodName) jdk_65_method_121_code 3 (some (.array .byte)) :: ws) ({ frames := 1, cells := 1, slots := 172, locals := 18 } : Room)) (fun a U => a = #[(.ref a1), (.int p2)] ∧ Z.Warmed39 U.vm ∧ U.heap = h0) (fun _ _ _ _ _ => True) (fun _ U o U' => ∃ v L, o = .returned v ∧ Q25 Z a1 p2 k_a1 xs nn h0 n0 v U'.heap L ∧ FrameEnd U o U' L ({ frames := 1, cells := 1, slots := 172, locals := 18 } : Room).cells ({ frames := 1, cells := 1, slots := 172, locals := 18 } : Room).slots) := by
  refine MetFree.of_bodySF (plainFor_of_name pn_25) hisR ?_
  intro p e s m args below meth c s₁ Bd hml0 hP hK
  obtain ⟨rfl, hZ, hh⟩ := hP
  have hx := Bd.exec
  have hby := Bd.bytes
  have hml : c.maxLocals = 3 := hml0
  have hown : s.vm.findClass "java/util/Arrays" = some m.cls := findClass_of_methodNamed Bd.named
  have hnm := (name_of_methodNamed Bd.named Bd.method).1
  have X0 : Stand p l e ({ frames := 1, cells := 1, slots := 172, locals := 18 } : Room) s m #[(.ref a1), (.int p2)] below meth c s₁ [] 0 0 := Stand.of_body Bd
  have e0 : s₁.heap = h0 := by rw [← hh, Bd.state]; rfl
  have N0 := Fr.nil n0
  apply own_in
  refine own_pre (B := s₁.setTop (mkF m 0 #[.val (.ref a1), .val (.int p2), .unset] [])) (fun t k => castTop (ef_25 m a1 p2) k) ?_
  refine own_pre (B := s₁.setTop (mkF m 1 #[.val (.ref a1), .val (.int p2), .unset] [(.int p2)])) (fun t k => XS.iloadN X0.here hx rfl (hb hby d25_0) rfl k) ?_
  refine own_pre (B := s₁.setTop (mkF m 2 #[.val (.ref a1), .val (.int p2), .unset] [(.ref a1), (.int p2)])) (fun t k => XS.aloadN X0.here hx rfl (hb hby d25_1) rfl rfl k) ?_
  obtain ⟨cl3, Ar3, -, S3, N3v, -, -⟩ := id V_a1
  refine own_pre (B := s₁.setTop (mkF m 3 #[.val (.ref a1), .val (.int p2), .unset] [(.int nn), (.int p2)])) (fun t k => X0.arraylength hx (by rw [e0]; exact Ar3.1) (State.isArrayOf_alike hZ.alike Ar3.2.1) (g := (mkF m 2 #[.val (.ref a1), .val (.int p2), .unset] [(.ref a1), (.int p2)])) rfl rfl (hb hby d25_2) t (by rw [len_of S3 N3v]; exact k)) ?_
  refine own_pre (B := s₁.setTop (mkF m 14 #[.val (.ref a1), .val (.int p2), .unset] [])) (fun t k => XS.icmpYes X0.here hx rfl (pc0 := 3) (pc' := 14) rfl (hb hby d25_3) rfl (feq hne).2 (by decide) (by decide) k) ?_
  refine own_pre (B := s₁.setTop (mkF m 15 #[.val (.ref a1), .val (.int p2), .unset] [(.int p2)])) (fun t k => XS.iloadN X0.here hx rfl (hb hby d25_14) rfl k) ?_
  have K4 : Keep h0 h0 [] := (Keep.refl h0 [])
  obtain ⟨T5, h5, k5, X5, e5, E5, A5, Q5, st5⟩ := own_newQ X0 hx hZ (hw _ (ow 3 rfl)) e0 (g := (mkF m 15 #[.val (.ref a1), .val (.int p2), .unset] [(.int p2)])) rfl (hb hby d25_15) rfl hp (cap := 172) hcap (by decide) (by decide) (by decide) (C := "[B") rfl
  obtain ⟨b5, g5⟩ : ∃ z, z = h0.size := ⟨_, rfl⟩
  rw [← g5] at A5 Q5 st5
  have g_b5 : n0 ≤ b5 := Nat.le_trans Z0 (Nat.le_of_eq g5.symm)
  have s_b5 : h0.size ≤ b5 := Nat.le_trans K4.1 (Nat.le_of_eq g5.symm)
  have ne6 : a1 ≠ b5 := Nat.ne_of_lt (Nat.lt_of_lt_of_le (Arv.lt V_a1) (Nat.le_of_eq g5.symm))
  have V_b5 : Arv Z h5 b5 k5 .byte p2 [] (.int (0 : Int32)) := Arv.new A5 hp
  refine own_pre (B := T5.setTop (mkF m 17 #[.val (.ref a1), .val (.int p2), .unset] [(.ref b5)])) (fun t k => st5 t k) ?_
  refine own_pre (B := T5.setTop (mkF m 18 #[.val (.ref a1), .val (.int p2), .val (.ref b5)] [])) (fun t k => XS.astoreN X5.here hx rfl (hb hby d25_17) rfl rfl (l' := #[.val (.ref a1), .val (.int p2), .val (.ref b5)]) rfl k) ?_
  refine own_pre (B := T5.setTop (mkF m 19 #[.val (.ref a1), .val (.int p2), .val (.ref b5)] [(.ref a1)])) (fun t k => XS.aloadN X5.here hx rfl (hb hby d25_18) rfl rfl k) ?_
  refine own_pre (B := T5.setTop (mkF m 20 #[.val (.ref a1), .val (.int p2), .val (.ref b5)] [(.int (0 : Int32)), (.ref a1)])) (fun t k => XS.iconst X5.here hx rfl (hb hby d25_19) k) ?_
  refine own_pre (B := T5.setTop (mkF m 21 #[.val (.ref a1), .val (.int p2), .val (.ref b5)] [(.ref b5), (.int (0 : Int32)), (.ref a1)])) (fun t k => XS.aloadN X5.here hx rfl (hb hby d25_20) rfl rfl k) ?_
  refine own_pre (B := T5.setTop (mkF m 22 #[.val (.ref a1), .val (.int p2), .val (.ref b5)] [(.int (0 : Int32)), (.ref b5), (.int (0 : Int32)), (.ref a1)])) (fun t k => XS.iconst X5.here hx rfl (hb hby d25_21) k) ?_
  refine own_pre (B := T5.setTop (mkF m 23 #[.val (.ref a1), .val (.int p2), .val (.ref b5)] [(.ref a1), (.int (0 : Int32)), (.ref b5), (.int (0 : Int32)), (.ref a1)])) (fun t k => XS.aloadN X5.here hx rfl (hb hby d25_22) rfl rfl k) ?_
  have c7 := (Arv.ext V_a1 E5)
  obtain ⟨cl8, Ar8, -, S8, N8v, -, -⟩ := id c7
  refine own_pre (B := T5.setTop (mkF m 24 #[.val (.ref a1), .val (.int p2), .val (.ref b5)] [(.int nn), (.int (0 : Int32)), (.ref b5), (.int (0 : Int32)), (.ref a1)])) (fun t k => X5.arraylength hx (by rw [e5]; exact Ar8.1) (State.isArrayOf_alike hZ.alike Ar8.2.1) (g := (mkF m 23 #[.val (.ref a1), .val (.int p2), .val (.ref b5)] [(.ref a1), (.int (0 : Int32)), (.ref b5), (.int (0 : Int32)), (.ref a1)])) rfl rfl (hb hby d25_23) t (by rw [len_of S8 N8v]; exact k)) ?_
  refine own_pre (B := T5.setTop (mkF m 25 #[.val (.ref a1), .val (.int p2), .val (.ref b5)] [(.int p2), (.int nn), (.int (0 : Int32)), (.ref b5), (.int (0 : Int32)), (.ref a1)])) (fun t k => XS.iloadN X5.here hx rfl (hb hby d25_24) rfl k) ?_
  have sz9 : n0 ≤ h5.size := (Nat.le_trans Z0 E5.1)
  obtain ⟨_, _, ⟨T10, L10, k10, n10⟩, -, X10, ⟨Lc10, hQ10, l10, y10, z10⟩, st10⟩ := Jvm.LawKit.callS X5 hx (y := (⟨"java/lang/Math", "min", "(II)I"⟩ : MethodName)) hown (mvT hZ (hw _ (ow 146 rfl))) (mvT hZ (hw _ (ow 147 rfl))) (mvT hZ (hw _ (ow 138 rfl))) (mvT hZ (hw _ (ow 148 rfl))) (by decide) (backOf (W := 4) (rm26 l Z a0 hw [] nn p2 h5 n0 sz9 ) hZ (hw _ (ow 148 rfl)) (hw _ (ow 138 rfl)) (by decide) (by decide)) (g := (mkF m 25 #[.val (.ref a1), .val (.int p2), .val (.ref b5)] [(.int p2), (.int nn), (.int (0 : Int32)), (.ref b5), (.int (0 : Int32)), (.ref a1)])) rfl (by rw [hml]; rfl) (argsL := [(.int nn), (.int p2)]) (rest := [(.int (0 : Int32)), (.ref b5), (.int (0 : Int32)), (.ref a1)]) (lenOf pd_1 rfl) rfl (by show 2 * 0 + _ ≤ _; exact Nat.le_of_eq rfl) (hb hby d25_25) (fun _ _ => ⟨rfl, e5, (by decide : 1 + 0 ≤ _), (by decide : 172 + 0 ≤ _)⟩)
  dsimp only [Pt.U, Pt.locs, Pt.cells, Pt.slots] at X10 l10 y10 z10 st10 hQ10
  subst l10 y10 z10
  obtain ⟨rfl, N10q, e10⟩ := hQ10
  have N10 := Fr.app N0 N10q
  obtain ⟨Lh11, Xh11, Nh11⟩ := own_hide X10 N10
  refine own_pre (B := T10.setTop (mkF m 28 #[.val (.ref a1), .val (.int p2), .val (.ref b5)] [(.int (own_f26 nn p2)), (.int (0 : Int32)), (.ref b5), (.int (0 : Int32)), (.ref a1)])) (fun t k => st10 t k) ?_
  have K12 : Keep h0 h5 [] := (Keep.ext K4 E5)
  obtain ⟨T13, h13, L13, xs13, X13, e13, N13, Kc13, V13, st13⟩ := own_cp Xh11 hx hZ hown (hw _ (ow 149 rfl)) (hw _ (ow 109 rfl)) (hw _ (ow 107 rfl)) (hw _ (ow 108 rfl)) e10 c7 V_b5 (by decide) (by decide) (own_min (own_nn0 V_a1) hp).1 (own_min (own_nn0 V_a1) hp).2.1 (own_min (own_nn0 V_a1) hp).2.2 Nh11 g_b5 (g := (mkF m 28 #[.val (.ref a1), .val (.int p2), .val (.ref b5)] [(.int (own_f26 nn p2)), (.int (0 : Int32)), (.ref b5), (.int (0 : Int32)), (.ref a1)])) rfl (by rw [hml]; rfl) rfl (hb hby d25_28) (by decide) (W := 0) (by show 2 * 0 + _ ≤ _; exact Nat.le_of_eq rfl) (by decide)
  refine own_pre (B := T13.setTop (mkF m 31 #[.val (.ref a1), .val (.int p2), .val (.ref b5)] [])) (fun t k => st13 t k) ?_
  refine own_pre (B := T13.setTop (mkF m 32 #[.val (.ref a1), .val (.int p2), .val (.ref b5)] [(.ref b5)])) (fun t k => XS.aloadN X13.here hx rfl (hb hby d25_31) rfl rfl k) ?_
  have K14 : Keep h0 h13 [] := (Keep.trans K12 Kc13 (allS (P := fun x => x ∈ [] ∨ h0.size ≤ x) (Or.inr s_b5) all0))
  have c15 := (Exa.keep Q5 Kc13)
  obtain ⟨fsr16, hrr16, hrunr16, hendedr16, hWr16, hsamer16⟩ := X13.leave (v := some (.ref b5)) (fun h => by rw [Bd.returns] at h; cases h)
  refine ⟨_, _, (retOut X13 hx (i := .areturn) Bd.returns rfl (Or.inr (Or.inr (Or.inr (Or.inr ⟨rfl, rfl, rfl⟩)))) (hb hby d25_32) hrr16), hrunr16, hendedr16, _, _, rfl, ?_, ⟨_, rfl⟩, hWr16, hsamer16.mono (by decide) (by decide)⟩
  show Q25 Z a1 p2 k_a1 xs nn h0 n0 _ T13.heap _
  rw [e13]
  exact ⟨b5, k5, xs13, rfl, N13, K14, g_b5, s_b5, c15, V13⟩
theorem pd_3 : parseMethodDescriptor "(I)I" = some ⟨[.int], some .int⟩ := by decide +kernel
theorem pd_4 : parseMethodDescriptor "([BI)[B" = some ⟨[(.array .byte), .int], some (.array .byte)⟩ := by decide +kernel
theorem d8_0 : decode jdk_68_method_9_code 0 = .ok (.aload_n 0, 1) := by decide +kernel
theorem d8_1 : decode jdk_68_method_9_code 1 = .ok (.getfield 15, 3) := by decide +kernel
theorem d8_4 : decode jdk_68_method_9_code 4 = .ok (.arraylength, 1) := by decide +kernel
theorem d8_5 : decode jdk_68_method_9_code 5 = .ok (.aload_n 0, 1) := by decide +kernel
theorem d8_6 : decode jdk_68_method_9_code 6 = .ok (.getfield 22, 3) := by decide +kernel
theorem d8_9 : decode jdk_68_method_9_code 9 = .ok (.ishr, 1) := by decide +kernel
theorem d8_10 : decode jdk_68_method_9_code 10 = .ok (.istore_n 2, 1) := by decide +kernel
theorem d8_11 : decode jdk_68_method_9_code 11 = .ok (.iload_n 1, 1) := by decide +kernel
theorem d8_12 : decode jdk_68_method_9_code 12 = .ok (.iload_n 2, 1) := by decide +kernel
theorem d8_13 : decode jdk_68_method_9_code 13 = .ok (.isub, 1) := by decide +kernel
theorem d8_14 : decode jdk_68_method_9_code 14 = .ok (.ifCond .le 24, 3) := by decide +kernel
theorem d8_17 : decode jdk_68_method_9_code 17 = .ok (.aload_n 0, 1) := by decide +kernel
theorem d8_18 : decode jdk_68_method_9_code 18 = .ok (.aload_n 0, 1) := by decide +kernel
theorem d8_19 : decode jdk_68_method_9_code 19 = .ok (.getfield 15, 3) := by decide +kernel
theorem d8_22 : decode jdk_68_method_9_code 22 = .ok (.aload_n 0, 1) := by decide +kernel
theorem d8_23 : decode jdk_68_method_9_code 23 = .ok (.iload_n 1, 1) := by decide +kernel
theorem d8_24 : decode jdk_68_method_9_code 24 = .ok (.invokevirtual 104, 3) := by decide +kernel
theorem d8_27 : decode jdk_68_method_9_code 27 = .ok (.aload_n 0, 1) := by decide +kernel
theorem d8_28 : decode jdk_68_method_9_code 28 = .ok (.getfield 22, 3) := by decide +kernel
theorem d8_31 : decode jdk_68_method_9_code 31 = .ok (.ishl, 1) := by decide +kernel
theorem d8_32 : decode jdk_68_method_9_code 32 = .ok (.invokestatic 108, 3) := by decide +kernel
theorem d8_35 : decode jdk_68_method_9_code 35 = .ok (.putfield 15, 3) := by decide +kernel
theorem d8_38 : decode jdk_68_method_9_code 38 = .ok (.return_, 1) := by decide +kernel
theorem pn_8 : plainName "java/lang/AbstractStringBuilder" = true := by first | (simp [plainName, overriddenIn]; done) | decide +kernel
theorem ef_8 (m : MethodId) (x0 : Addr) (x1 : Int32) : entryFrame m #[(.ref x0), (.int x1)] 3 = mkF m 0 #[.val (.ref x0), .val (.int x1), .unset] [] := by first | (simp [entryFrame, mkF, argsToLocals, Value.category]; done) | rfl
def Q8 (Z : State) (a1 : Addr) (p2 : Int32) (w_value_a1 : Addr) (k_w_value_a1 : ClassId) (xs : List Value) (NN : Int32) (w_count_a1 : Int32) (h0 : Heap) (n0 : Nat) (v : Option Value) (h : Heap) (L : List Loc) : Prop := ∃ (vx : Addr) (kx : ClassId) (nx : Int32) (xx : List Value), v = none ∧ Fr n0 L ∧ Keep h0 h [a1, w_value_a1] ∧ n0 ≤ vx ∧ (vx = w_value_a1 ∨ h0.size ≤ vx) ∧ a1 ≠ vx ∧ own_P nx p2 ∧ Exa Z h a1 "java/lang/StringBuilder" ∧ Fld Z h a1 "java/lang/AbstractStringBuilder" "value" "[B" (.ref vx) ∧ Fld Z h a1 "java/lang/AbstractStringBuilder" "coder" "B" (.int (0 : Int32)) ∧ Fld Z h a1 "java/lang/AbstractStringBuilder" "count" "I" (.int w_count_a1) ∧ Exa Z h vx "[B" ∧ Arv Z h vx kx .byte nx xx (.int (0 : Int32))
set_option maxRecDepth 65536 in
set_option maxHeartbeats 40000000 in
theorem rm8 (l : Launch) (Z : State) (a0 : Array Value) (hw : ∀ d ∈ tables_1, d.before a0 Z = true) (ws : List Jvm.Cond) (a1 : Addr) (p2 : Int32) (w_value_a1 : Addr) (k_w_value_a1 : ClassId) (xs : List Value) (NN : Int32) (w_count_a1 : Int32) (h0 : Heap) (n0 : Nat) (Z0 : n0 ≤ h0.size) (E_a1 : Exa Z h0 a1 "java/lang/StringBuilder") (F_value_a1 : Fld Z h0 a1 "java/lang/AbstractStringBuilder" "value" "[B" (.ref w_value_a1)) (F_coder_a1 : Fld Z h0 a1 "java/lang/AbstractStringBuilder" "coder" "B" (.int (0 : Int32))) (V_w_value_a1 : Arv Z h0 w_value_a1 k_w_value_a1 .byte NN xs (.int (0 : Int32))) (E_w_value_a1 : Exa Z h0 w_value_a1 "[B") (F_count_a1 : Fld Z h0 a1 "java/lang/AbstractStringBuilder" "count" "I" (.int w_count_a1)) (ne_a1_w_value_a1 : a1 ≠ w_value_a1) (g_a1 : n0 ≤ a1) (g_w_value_a1 : n0 ≤ w_value_a1) (hC : own_C NN p2) :
    MetFree l (⟨"java/lang/AbstractStringBuilder", "ensureCapacityInternal", "(I)V"⟩ : MethodName) (head1 (Jvm.Cond.code (⟨"java/lang/AbstractStringBuilder", "ensureCapacityInternal", "(I)V"⟩ : MethodName) jdk_68_method_9_code 3 none :: ws) ({ frames := 3, cells := 1, slots := 172, locals := 48 } : Room)) (fun a U => a = #[(.ref a1), (.int p2)] ∧ Z.Warmed39 U.vm ∧ U.heap = h0) (fun _ _ _ _ _ => True) (fun _ U o U' => ∃ v L, o = .returned v ∧ Q8 Z a1 p2 w_value_a1 k_w_value_a1 xs NN w_count_a1 h0 n0 v U'.heap L ∧ FrameEnd U o U' L ({ frames := 3, cells := 1, slots := 172, locals := 48 } : Room).cells ({ frames := 3, cells := 1, slots := 172, locals := 48 } : Room).slots) := by
  refine MetFree.of_bodySF (plainFor_of_name pn_8) hisR ?_
  intro p e s m args below meth c s₁ Bd hml0 hP hK
  obtain ⟨rfl, hZ, hh⟩ := hP
  have hx := Bd.exec
  have hby := Bd.bytes
  have hml : c.maxLocals = 3 := hml0
  have hown : s.vm.findClass "java/lang/AbstractStringBuilder" = some m.cls := findClass_of_methodNamed Bd.named
  have hnm := (name_of_methodNamed Bd.named Bd.method).1
  have X0 : Stand p l e ({ frames := 3, cells := 1, slots := 172, locals := 48 } : Room) s m #[(.ref a1), (.int p2)] below meth c s₁ [] 0 0 := Stand.of_body Bd
  have e0 : s₁.heap = h0 := by rw [← hh, Bd.state]; rfl
  have N0 := Fr.nil n0
  apply own_in
  refine own_pre (B := s₁.setTop (mkF m 0 #[.val (.ref a1), .val (.int p2), .unset] [])) (fun t k => castTop (ef_8 m a1 p2) k) ?_
  refine own_pre (B := s₁.setTop (mkF m 1 #[.val (.ref a1), .val (.int p2), .unset] [(.ref a1)])) (fun t k => XS.aloadN X0.here hx rfl (hb hby d8_0) rfl rfl k) ?_
  obtain ⟨T3, X3, e3, st3⟩ := getF X0 hx hZ hown (host := "") (Or.inl (hw _ (ow 30 rfl))) Via.refl e0 F_value_a1 (g := (mkF m 1 #[.val (.ref a1), .val (.int p2), .unset] [(.ref a1)])) rfl rfl (hb hby d8_1)
  refine own_pre (B := T3.setTop (mkF m 4 #[.val (.ref a1), .val (.int p2), .unset] [(.ref w_value_a1)])) (fun t k => st3 t k) ?_
  obtain ⟨cl4, Ar4, -, S4, N4v, -, -⟩ := id V_w_value_a1
  refine own_pre (B := T3.setTop (mkF m 5 #[.val (.ref a1), .val (.int p2), .unset] [(.int NN)])) (fun t k => X3.arraylength hx (by rw [e3]; exact Ar4.1) (State.isArrayOf_alike hZ.alike Ar4.2.1) (g := (mkF m 4 #[.val (.ref a1), .val (.int p2), .unset] [(.ref w_value_a1)])) rfl rfl (hb hby d8_4) t (by rw [len_of S4 N4v]; exact k)) ?_
  refine own_pre (B := T3.setTop (mkF m 6 #[.val (.ref a1), .val (.int p2), .unset] [(.ref a1), (.int NN)])) (fun t k => XS.aloadN X3.here hx rfl (hb hby d8_5) rfl rfl k) ?_
  obtain ⟨T5, X5, e5, st5⟩ := getF X3 hx hZ hown (host := "") (Or.inl (hw _ (ow 32 rfl))) Via.refl e3 F_coder_a1 (g := (mkF m 6 #[.val (.ref a1), .val (.int p2), .unset] [(.ref a1), (.int NN)])) rfl rfl (hb hby d8_6)
  refine own_pre (B := T5.setTop (mkF m 9 #[.val (.ref a1), .val (.int p2), .unset] [(.int (0 : Int32)), (.int NN)])) (fun t k => st5 t k) ?_
  refine own_pre (B := T5.setTop (mkF m 10 #[.val (.ref a1), .val (.int p2), .unset] [(.int NN)])) (fun t k => XS.ishr X5.here hx rfl (hb hby d8_9) rfl (by rw [own_ishr0]; exact k)) ?_
  refine own_pre (B := T5.setTop (mkF m 11 #[.val (.ref a1), .val (.int p2), .val (.int NN)] [])) (fun t k => XS.istoreN X5.here hx rfl (hb hby d8_10) rfl (l' := #[.val (.ref a1), .val (.int p2), .val (.int NN)]) rfl k) ?_
  refine own_pre (B := T5.setTop (mkF m 12 #[.val (.ref a1), .val (.int p2), .val (.int NN)] [(.int p2)])) (fun t k => XS.iloadN X5.here hx rfl (hb hby d8_11) rfl k) ?_
  refine own_pre (B := T5.setTop (mkF m 13 #[.val (.ref a1), .val (.int p2), .val (.int NN)] [(.int NN), (.int p2)])) (fun t k => XS.iloadN X5.here hx rfl (hb hby d8_12) rfl k) ?_
  refine own_pre (B := T5.setTop (mkF m 14 #[.val (.ref a1), .val (.int p2), .val (.int NN)] [(.int (p2 - NN))])) (fun t k => XS.isub X5.here hx rfl (hb hby d8_13) rfl k) ?_
  by_cases hc14_6 : (0 : Int32) < (p2 - NN)
  · refine own_pre (B := T5.setTop (mkF m 17 #[.val (.ref a1), .val (.int p2), .val (.int NN)] [])) (fun t k => XS.ifNo X5.here hx rfl (hb hby d8_14) rfl ((if0 _ _).trans (tlt hc14_6).2.2.2) k) ?_
    refine own_pre (B := T5.setTop (mkF m 18 #[.val (.ref a1), .val (.int p2), .val (.int NN)] [(.ref a1)])) (fun t k => XS.aloadN X5.here hx rfl (hb hby d8_17) rfl rfl k) ?_
    refine own_pre (B := T5.setTop (mkF m 19 #[.val (.ref a1), .val (.int p2), .val (.int NN)] [(.ref a1), (.ref a1)])) (fun t k => XS.aloadN X5.here hx rfl (hb hby d8_18) rfl rfl k) ?_
    obtain ⟨T7, X7, e7, st7⟩ := getF X5 hx hZ hown (host := "") (Or.inl (hw _ (ow 30 rfl))) Via.refl e5 F_value_a1 (g := (mkF m 19 #[.val (.ref a1), .val (.int p2), .val (.int NN)] [(.ref a1), (.ref a1)])) rfl rfl (hb hby d8_19)
    refine own_pre (B := T7.setTop (mkF m 22 #[.val (.ref a1), .val (.int p2), .val (.int NN)] [(.ref w_value_a1), (.ref a1)])) (fun t k => st7 t k) ?_
    refine own_pre (B := T7.setTop (mkF m 23 #[.val (.ref a1), .val (.int p2), .val (.int NN)] [(.ref a1), (.ref w_value_a1), (.ref a1)])) (fun t k => XS.aloadN X7.here hx rfl (hb hby d8_22) rfl rfl k) ?_
    refine own_pre (B := T7.setTop (mkF m 24 #[.val (.ref a1), .val (.int p2), .val (.int NN)] [(.int p2), (.ref a1), (.ref w_value_a1), (.ref a1)])) (fun t k => XS.iloadN X7.here hx rfl (hb hby d8_23) rfl k) ?_
    obtain ⟨cq8, q8, q8'⟩ := (E_a1).cell
    obtain ⟨_, _, ⟨T8, L8, k8, n8⟩, -, X8, ⟨Lc8, hQ8, l8, y8, z8⟩, st8⟩ := X7.privateBack hx (y := (⟨"java/lang/AbstractStringBuilder", "newCapacity", "(I)I"⟩ : MethodName)) hown (mvT hZ (hw _ (ow 127 rfl))) (mvT hZ (hw _ (ow 128 rfl))) (own_selq hZ (own_nf (hw _ (ow 54 rfl)) (hw _ (ow 52 rfl)) rfl) (hw _ (ow 129 rfl)) (hw _ (ow 128 rfl)) (by decide)) (Cond.privateMethod_at (mvP hZ (hw _ (ow 129 rfl)) (args := #[]))) (mvT hZ (hw _ (ow 131 rfl))) (by decide) (backOf (W := 2) (rm22 l Z a0 hw [] a1 p2 w_value_a1 k_w_value_a1 xs NN h0 n0 Z0 E_a1 F_coder_a1 F_value_a1 V_w_value_a1 (own_cap hC hc14_6).1 (own_cap hC hc14_6).2.1 (own_cap hC hc14_6).2.2.1) hZ (hw _ (ow 131 rfl)) (hw _ (ow 24 rfl)) (by decide) (by decide)) (g := (mkF m 24 #[.val (.ref a1), .val (.int p2), .val (.int NN)] [(.int p2), (.ref a1), (.ref w_value_a1), (.ref a1)])) rfl (by rw [hml]; rfl) (Steps.refl _) (a := a1) (by rw [e7]; exact q8) q8' (argsL := [(.int p2)]) (rest := [(.ref w_value_a1), (.ref a1)]) (lenOf pd_3 rfl) rfl (by show 2 * 0 + _ ≤ _; exact Nat.le_of_eq rfl) (hb hby d8_24) (fun _ _ => ⟨rfl, e7, (by decide : 0 + 0 ≤ _), (by decide : 0 + 0 ≤ _)⟩)
    dsimp only [Pt.U, Pt.locs, Pt.cells, Pt.slots] at X8 l8 y8 z8 st8 hQ8
    subst l8 y8 z8
    obtain ⟨rfl, N8q, e8⟩ := hQ8
    have N8 := Fr.app N0 N8q
    obtain ⟨Lh9, Xh9, Nh9⟩ := own_hide X8 N8
    refine own_pre (B := T8.setTop (mkF m 27 #[.val (.ref a1), .val (.int p2), .val (.int NN)] [(.int (own_f22 p2 NN)), (.ref w_value_a1), (.ref a1)])) (fun t k => st8.trans k) ?_
    refine own_pre (B := T8.setTop (mkF m 28 #[.val (.ref a1), .val (.int p2), .val (.int NN)] [(.ref a1), (.int (own_f22 p2 NN)), (.ref w_value_a1), (.ref a1)])) (fun t k => XS.aloadN Xh9.here hx rfl (hb hby d8_27) rfl rfl k) ?_
    obtain ⟨T10, X10, e10, st10⟩ := getF Xh9 hx hZ hown (host := "") (Or.inl (hw _ (ow 32 rfl))) Via.refl e8 F_coder_a1 (g := (mkF m 28 #[.val (.ref a1), .val (.int p2), .val (.int NN)] [(.ref a1), (.int (own_f22 p2 NN)), (.ref w_value_a1), (.ref a1)])) rfl rfl (hb hby d8_28)
    refine own_pre (B := T10.setTop (mkF m 31 #[.val (.ref a1), .val (.int p2), .val (.int NN)] [(.int (0 : Int32)), (.int (own_f22 p2 NN)), (.ref w_value_a1), (.ref a1)])) (fun t k => st10 t k) ?_
    refine own_pre (B := T10.setTop (mkF m 32 #[.val (.ref a1), .val (.int p2), .val (.int NN)] [(.int (own_f22 p2 NN)), (.ref w_value_a1), (.ref a1)])) (fun t k => XS.ishl X10.here hx rfl (hb hby d8_31) rfl (by rw [own_ishl0]; exact k)) ?_
    obtain ⟨_, _, ⟨T11, L11, k11, n11⟩, -, X11, ⟨Lc11, hQ11, l11, y11, z11⟩, st11⟩ := Jvm.LawKit.callS X10 hx (y := (⟨"java/util/Arrays", "copyOf", "([BI)[B"⟩ : MethodName)) hown (mvT hZ (hw _ (ow 142 rfl))) (mvT hZ (hw _ (ow 143 rfl))) (mvT hZ (hw _ (ow 144 rfl))) (mvT hZ (hw _ (ow 145 rfl))) (by decide) (backOf (W := 1) (rm25 l Z a0 hw [] w_value_a1 (own_f22 p2 NN) k_w_value_a1 xs NN h0 n0 Z0 V_w_value_a1 (own_cap hC hc14_6).2.2.2.1 (own_cap hC hc14_6).2.2.2.2.1 (own_cap hC hc14_6).2.2.2.2.2.1) hZ (hw _ (ow 145 rfl)) (hw _ (ow 144 rfl)) (by decide) (by decide)) (g := (mkF m 32 #[.val (.ref a1), .val (.int p2), .val (.int NN)] [(.int (own_f22 p2 NN)), (.ref w_value_a1), (.ref a1)])) rfl (by rw [hml]; rfl) (argsL := [(.ref w_value_a1), (.int (own_f22 p2 NN))]) (rest := [(.ref a1)]) (lenOf pd_4 rfl) rfl (by show 2 * 0 + _ ≤ _; exact Nat.le_of_eq rfl) (hb hby d8_32) (fun _ _ => ⟨rfl, e10, (by decide : 0 + 1 ≤ _), (by decide : 0 + 172 ≤ _)⟩)
    dsimp only [Pt.U, Pt.locs, Pt.cells, Pt.slots] at X11 l11 y11 z11 st11 hQ11
    subst l11 y11 z11
    obtain ⟨b5_11, k5_11, ub0_11, rfl, N11q, K11, q11_0, q11_1, q11_2, q11_3⟩ := hQ11
    have N11 := Fr.app Nh9 N11q
    have K12 : Keep h0 h0 [a1, w_value_a1] := (Keep.refl h0 [a1, w_value_a1])
    have ne13 : a1 ≠ b5_11 := Nat.ne_of_lt (Nat.lt_of_lt_of_le (Exa.lt E_a1) q11_1)
    have ne14 : w_value_a1 ≠ b5_11 := Nat.ne_of_lt (Nat.lt_of_lt_of_le (Exa.lt E_w_value_a1) q11_1)
    have s_b5_11 : h0.size ≤ b5_11 := Nat.le_trans K12.1 q11_1
    obtain ⟨Lh15, Xh15, Nh15⟩ := own_hide X11 N11
    refine own_pre (B := T11.setTop (mkF m 35 #[.val (.ref a1), .val (.int p2), .val (.int NN)] [(.ref b5_11), (.ref a1)])) (fun t k => st11 t k) ?_
    have c16 := (Exa.keep E_a1 K11)
    have c17 := (Fld.keep F_value_a1 K11 nin0)
    have K18 : Keep h0 T11.heap [a1, w_value_a1] := (Keep.trans K12 K11 all0)
    obtain ⟨T19, h19, X19, e19, W19, st19⟩ := putF Xh15 hx hZ hown (host := "") (Or.inl (hw _ (ow 30 rfl))) Via.refl rfl c17 c16 (Or.inl (hw _ (ow 31 rfl))) (hw _ (ow 15 rfl)) (ty := (.array .byte)) (by decide) rfl rfl (g := (mkF m 35 #[.val (.ref a1), .val (.int p2), .val (.int NN)] [(.ref b5_11), (.ref a1)])) rfl rfl (hb hby d8_35)
    have Fw19 := Fld.same W19 c17
    have N19 := Fr.snoc X19 Nh15 g_a1
    obtain ⟨Lh20, Xh20, Nh20⟩ := own_hide X19 N19
    refine own_pre (B := T19.setTop (mkF m 38 #[.val (.ref a1), .val (.int p2), .val (.int NN)] [])) (fun t k => st19 t k) ?_
    have K21 : Keep h0 h19 [a1, w_value_a1] := (Keep.wr K18 W19 (Or.inl (List.mem_of_getElem? (i := 0) rfl)))
    have c22 := (Fld.other W19 (Fld.keep F_coder_a1 K11 nin0) (Or.inr (slot_ne (Or.inl (hw _ (ow 33 rfl))) (Or.inl (hw _ (ow 31 rfl))) (by decide) (t := .byte) (t' := (.array .byte)) (by decide) (by decide))))
    have c23 := (Fld.other W19 (Fld.keep F_count_a1 K11 nin0) (Or.inr (slot_ne (Or.inl (hw _ (ow 45 rfl))) (Or.inl (hw _ (ow 31 rfl))) (by decide) (t := .int) (t' := (.array .byte)) (by decide) (by decide))))
    have c24 := (Exa.wr W19 c16)
    have c25 := (Exa.wr W19 q11_2)
    have c26 := (Arv.other q11_3 W19 (Ne.symm ne13))
    obtain ⟨fsr27, hrr27, hrunr27, hendedr27, hWr27, hsamer27⟩ := Xh20.leave (v := none) (fun _ => rfl)
    refine ⟨_, _, (Xh20.returnOut hx Bd.returns (hb hby d8_38) hrr27), hrunr27, hendedr27, _, _, rfl, ?_, ⟨_, rfl⟩, hWr27, hsamer27.mono (by decide) (by decide)⟩
    show Q8 Z a1 p2 w_value_a1 k_w_value_a1 xs NN w_count_a1 h0 n0 _ T19.heap _
    rw [e19]
    exact ⟨b5_11, k5_11, (own_f22 p2 NN), ub0_11, rfl, Nh20, K21, q11_0, Or.inr s_b5_11, ne13, (own_cap hC hc14_6).2.2.2.2.2.2, c24, Fw19, c22, c23, c25, c26⟩
  · refine own_pre (B := T5.setTop (mkF m 38 #[.val (.ref a1), .val (.int p2), .val (.int NN)] [])) (fun t k => XS.ifYes X5.here hx rfl (pc0 := 14) (pc' := 38) rfl (hb hby d8_14) rfl ((if0 _ _).trans (flt hc14_6).2.2.2) (by decide) (by decide) k) ?_
    have K28 : Keep h0 h0 [a1, w_value_a1] := (Keep.refl h0 [a1, w_value_a1])
    obtain ⟨fsr29, hrr29, hrunr29, hendedr29, hWr29, hsamer29⟩ := X5.leave (v := none) (fun _ => rfl)
    refine ⟨_, _, (X5.returnOut hx Bd.returns (hb hby d8_38) hrr29), hrunr29, hendedr29, _, _, rfl, ?_, ⟨_, rfl⟩, hWr29, hsamer29.mono (by decide) (by decide)⟩
    show Q8 Z a1 p2 w_value_a1 k_w_value_a1 xs NN w_count_a1 h0 n0 _ T5.heap _
    rw [e5]
    exact ⟨w_value_a1, k_w_value_a1, NN, xs, rfl, N0, K28, g_w_value_a1, Or.inl rfl, ne_a1_w_value_a1, own_kept hC hc14_6, E_a1, F_value_a1, F_coder_a1, F_count_a1, E_w_value_a1, V_w_value_a1⟩
theorem own_z {n : Int32} (h : ¬ n < 0) : (0 : Int32).toNatClampNeg + n.toNatClampNeg ≤ n.toNatClampNeg := by rw [show (0 : Int32).toNatClampNeg = 0 by decide]; omega
theorem d17_0 : decode jdk_42_method_147_code 0 = .ok (.aload_n 0, 1) := by decide +kernel
theorem d17_1 : decode jdk_42_method_147_code 1 = .ok (.invokevirtual 335, 3) := by decide +kernel
theorem d17_4 : decode jdk_42_method_147_code 4 = .ok (.iload_n 3, 1) := by decide +kernel
theorem d17_5 : decode jdk_42_method_147_code 5 = .ok (.if_icmp .ne 23, 3) := by decide +kernel
theorem d17_8 : decode jdk_42_method_147_code 8 = .ok (.aload_n 0, 1) := by decide +kernel
theorem d17_9 : decode jdk_42_method_147_code 9 = .ok (.getfield 9, 3) := by decide +kernel
theorem d17_12 : decode jdk_42_method_147_code 12 = .ok (.iconst 0, 1) := by decide +kernel
theorem d17_13 : decode jdk_42_method_147_code 13 = .ok (.aload_n 1, 1) := by decide +kernel
theorem d17_14 : decode jdk_42_method_147_code 14 = .ok (.iload_n 2, 1) := by decide +kernel
theorem d17_15 : decode jdk_42_method_147_code 15 = .ok (.iload_n 3, 1) := by decide +kernel
theorem d17_16 : decode jdk_42_method_147_code 16 = .ok (.ishl, 1) := by decide +kernel
theorem d17_17 : decode jdk_42_method_147_code 17 = .ok (.aload_n 0, 1) := by decide +kernel
theorem d17_18 : decode jdk_42_method_147_code 18 = .ok (.getfield 9, 3) := by decide +kernel
theorem d17_21 : decode jdk_42_method_147_code 21 = .ok (.arraylength, 1) := by decide +kernel
theorem d17_22 : decode jdk_42_method_147_code 22 = .ok (.invokestatic 212, 3) := by decide +kernel
theorem d17_25 : decode jdk_42_method_147_code 25 = .ok (.goto 18, 3) := by decide +kernel
theorem d17_43 : decode jdk_42_method_147_code 43 = .ok (.return_, 1) := by decide +kernel
theorem pn_17 : plainName "java/lang/String" = true := by first | (simp [plainName, overriddenIn]; done) | decide +kernel
theorem ef_17 (m : MethodId) (x0 : Addr) (x1 : Addr) (x2 : Int32) : entryFrame m #[(.ref x0), (.ref x1), (.int x2), (.int (0 : Int32))] 4 = mkF m 0 #[.val (.ref x0), .val (.ref x1), .val (.int x2), .val (.int (0 : Int32))] [] := by first | (simp [entryFrame, mkF, argsToLocals, Value.category]; done) | rfl
def Q17 (Z : State) (a1 : Addr) (a2 : Addr) (p3 : Int32) (cs : Int32) (w_value_a1 : Addr) (k_w_value_a1 : ClassId) (ys : List Value) (mm : Int32) (k_a2 : ClassId) (xs : List Value) (NN : Int32) (h0 : Heap) (n0 : Nat) (v : Option Value) (h : Heap) (L : List Loc) : Prop := ∃ (ub0 : List Value), v = none ∧ Fr n0 L ∧ Keep h0 h [a2] ∧ Arv Z h a2 k_a2 .byte NN ub0 (.int (0 : Int32))
set_option maxRecDepth 65536 in
set_option maxHeartbeats 40000000 in
theorem rm17 (l : Launch) (Z : State) (a0 : Array Value) (hw : ∀ d ∈ tables_1, d.before a0 Z = true) (ws : List Jvm.Cond) (a1 : Addr) (a2 : Addr) (p3 : Int32) (cs : Int32) (w_value_a1 : Addr) (k_w_value_a1 : ClassId) (ys : List Value) (mm : Int32) (k_a2 : ClassId) (xs : List Value) (NN : Int32) (h0 : Heap) (n0 : Nat) (Z0 : n0 ≤ h0.size) (O0 : Old Z n0 h0) (SCS : Sta Z Z.heap "java/lang/String" "COMPACT_STRINGS" "Z" (.int cs)) (hcs : ¬ cs = (0 : Int32)) (E_a1 : Exa Z h0 a1 "java/lang/String") (F_coder_a1 : Fld Z h0 a1 "java/lang/String" "coder" "B" (.int (0 : Int32))) (F_value_a1 : Fld Z h0 a1 "java/lang/String" "value" "[B" (.ref w_value_a1)) (V_w_value_a1 : Arv Z h0 w_value_a1 k_w_value_a1 .byte mm ys (.int (0 : Int32))) (V_a2 : Arv Z h0 a2 k_a2 .byte NN xs (.int (0 : Int32))) (hp : ¬ p3 < 0) (hfit : p3.toNatClampNeg + mm.toNatClampNeg ≤ NN.toNatClampNeg) (g_a2 : n0 ≤ a2) :
    MetFree l (⟨"java/lang/String", "getBytes", "([BIB)V"⟩ : MethodName) (head1 (Jvm.Cond.code (⟨"java/lang/String", "getBytes", "([BIB)V"⟩ : MethodName) jdk_42_method_147_code 4 none :: ws) ({ frames := 1, cells := 0, slots := 0, locals := 18 } : Room)) (fun a U => a = #[(.ref a1), (.ref a2), (.int p3), (.int (0 : Int32))] ∧ Z.Warmed39 U.vm ∧ U.heap = h0) (fun _ _ _ _ _ => True) (fun _ U o U' => ∃ v L, o = .returned v ∧ Q17 Z a1 a2 p3 cs w_value_a1 k_w_value_a1 ys mm k_a2 xs NN h0 n0 v U'.heap L ∧ FrameEnd U o U' L ({ frames := 1, cells := 0, slots := 0, locals := 18 } : Room).cells ({ frames := 1, cells := 0, slots := 0, locals := 18 } : Room).slots) := by
  refine MetFree.of_bodySF (plainFor_of_name pn_17) hisR ?_
  intro p e s m args below meth c s₁ Bd hml0 hP hK
  obtain ⟨rfl, hZ, hh⟩ := hP
  have hx := Bd.exec
  have hby := Bd.bytes
  have hml : c.maxLocals = 4 := hml0
  have hown : s.vm.findClass "java/lang/String" = some m.cls := findClass_of_methodNamed Bd.named
  have hnm := (name_of_methodNamed Bd.named Bd.method).1
  have X0 : Stand p l e ({ frames := 1, cells := 0, slots := 0, locals := 18 } : Room) s m #[(.ref a1), (.ref a2), (.int p3), (.int (0 : Int32))] below meth c s₁ [] 0 0 := Stand.of_body Bd
  have e0 : s₁.heap = h0 := by rw [← hh, Bd.state]; rfl
  have N0 := Fr.nil n0
  apply own_in
  refine own_pre (B := s₁.setTop (mkF m 0 #[.val (.ref a1), .val (.ref a2), .val (.int p3), .val (.int (0 : Int32))] [])) (fun t k => castTop (ef_17 m a1 a2 p3) k) ?_
  refine own_pre (B := s₁.setTop (mkF m 1 #[.val (.ref a1), .val (.ref a2), .val (.int p3), .val (.int (0 : Int32))] [(.ref a1)])) (fun t k => XS.aloadN X0.here hx rfl (hb hby d17_0) rfl rfl k) ?_
  obtain ⟨cq4, kq4, q4a, q4b, q4c⟩ := isOf hZ e0 E_a1
  obtain ⟨_, _, ⟨T4, L4, k4, n4⟩, -, X4, ⟨Lc4, hQ4, l4, y4, z4⟩, st4⟩ := X0.virtualBack hx (y := (⟨"java/lang/String", "coder", "()B"⟩ : MethodName)) (z := (⟨"java/lang/String", "coder", "()B"⟩ : MethodName)) hown (mvT hZ (hw _ (ow 83 rfl))) (mvT hZ (hw _ (ow 84 rfl))) (notFace_of_selects (args := #[]) (mvT hZ (hw _ (ow 86 rfl)))) (mvT hZ (hw _ (ow 86 rfl))) (mvT hZ (hw _ (ow 85 rfl))) (by decide) (backOf (W := 0) (rm14 l Z a0 hw [] a1 cs h0 n0 Z0 O0 SCS hcs F_coder_a1) hZ (hw _ (ow 87 rfl)) (hw _ (ow 1 rfl)) (by decide) (by decide)) q4a q4c (g := (mkF m 1 #[.val (.ref a1), .val (.ref a2), .val (.int p3), .val (.int (0 : Int32))] [(.ref a1)])) rfl (by rw [hml]; rfl) (Steps.refl _) (argsL := []) (rest := []) (lenOf pd_0 rfl) rfl (by show 2 * 0 + _ ≤ _; exact Nat.le_of_eq rfl) (hb hby d17_1) (fun _ _ => ⟨rfl, e0, (by decide : 0 + 0 ≤ _), (by decide : 0 + 0 ≤ _)⟩)
  dsimp only [Pt.U, Pt.locs, Pt.cells, Pt.slots] at X4 l4 y4 z4 st4 hQ4
  subst l4 y4 z4
  obtain ⟨rfl, N4q, e4⟩ := hQ4
  have N4 := Fr.app N0 N4q
  obtain ⟨Lh5, Xh5, Nh5⟩ := own_hide X4 N4
  refine own_pre (B := T4.setTop (mkF m 4 #[.val (.ref a1), .val (.ref a2), .val (.int p3), .val (.int (0 : Int32))] [(.int (0 : Int32))])) (fun t k => st4.trans k) ?_
  refine own_pre (B := T4.setTop (mkF m 5 #[.val (.ref a1), .val (.ref a2), .val (.int p3), .val (.int (0 : Int32))] [(.int (0 : Int32)), (.int (0 : Int32))])) (fun t k => XS.iloadN Xh5.here hx rfl (hb hby d17_4) rfl k) ?_
  refine own_pre (B := T4.setTop (mkF m 8 #[.val (.ref a1), .val (.ref a2), .val (.int p3), .val (.int (0 : Int32))] [])) (fun t k => XS.icmpNo Xh5.here hx rfl (hb hby d17_5) rfl (teq (rfl : (0 : Int32) = (0 : Int32))).2 k) ?_
  refine own_pre (B := T4.setTop (mkF m 9 #[.val (.ref a1), .val (.ref a2), .val (.int p3), .val (.int (0 : Int32))] [(.ref a1)])) (fun t k => XS.aloadN Xh5.here hx rfl (hb hby d17_8) rfl rfl k) ?_
  obtain ⟨T6, X6, e6, st6⟩ := getF Xh5 hx hZ hown (host := "") (Or.inl (hw _ (ow 82 rfl))) Via.refl e4 F_value_a1 (g := (mkF m 9 #[.val (.ref a1), .val (.ref a2), .val (.int p3), .val (.int (0 : Int32))] [(.ref a1)])) rfl rfl (hb hby d17_9)
  refine own_pre (B := T6.setTop (mkF m 12 #[.val (.ref a1), .val (.ref a2), .val (.int p3), .val (.int (0 : Int32))] [(.ref w_value_a1)])) (fun t k => st6 t k) ?_
  refine own_pre (B := T6.setTop (mkF m 13 #[.val (.ref a1), .val (.ref a2), .val (.int p3), .val (.int (0 : Int32))] [(.int (0 : Int32)), (.ref w_value_a1)])) (fun t k => XS.iconst X6.here hx rfl (hb hby d17_12) k) ?_
  refine own_pre (B := T6.setTop (mkF m 14 #[.val (.ref a1), .val (.ref a2), .val (.int p3), .val (.int (0 : Int32))] [(.ref a2), (.int (0 : Int32)), (.ref w_value_a1)])) (fun t k => XS.aloadN X6.here hx rfl (hb hby d17_13) rfl rfl k) ?_
  refine own_pre (B := T6.setTop (mkF m 15 #[.val (.ref a1), .val (.ref a2), .val (.int p3), .val (.int (0 : Int32))] [(.int p3), (.ref a2), (.int (0 : Int32)), (.ref w_value_a1)])) (fun t k => XS.iloadN X6.here hx rfl (hb hby d17_14) rfl k) ?_
  refine own_pre (B := T6.setTop (mkF m 16 #[.val (.ref a1), .val (.ref a2), .val (.int p3), .val (.int (0 : Int32))] [(.int (0 : Int32)), (.int p3), (.ref a2), (.int (0 : Int32)), (.ref w_value_a1)])) (fun t k => XS.iloadN X6.here hx rfl (hb hby d17_15) rfl k) ?_
  refine own_pre (B := T6.setTop (mkF m 17 #[.val (.ref a1), .val (.ref a2), .val (.int p3), .val (.int (0 : Int32))] [(.int p3), (.ref a2), (.int (0 : Int32)), (.ref w_value_a1)])) (fun t k => XS.ishl X6.here hx rfl (hb hby d17_16) rfl (by rw [own_ishl0]; exact k)) ?_
  refine own_pre (B := T6.setTop (mkF m 18 #[.val (.ref a1), .val (.ref a2), .val (.int p3), .val (.int (0 : Int32))] [(.ref a1), (.int p3), (.ref a2), (.int (0 : Int32)), (.ref w_value_a1)])) (fun t k => XS.aloadN X6.here hx rfl (hb hby d17_17) rfl rfl k) ?_
  obtain ⟨T7, X7, e7, st7⟩ := getF X6 hx hZ hown (host := "") (Or.inl (hw _ (ow 82 rfl))) Via.refl e6 F_value_a1 (g := (mkF m 18 #[.val (.ref a1), .val (.ref a2), .val (.int p3), .val (.int (0 : Int32))] [(.ref a1), (.int p3), (.ref a2), (.int (0 : Int32)), (.ref w_value_a1)])) rfl rfl (hb hby d17_18)
  refine own_pre (B := T7.setTop (mkF m 21 #[.val (.ref a1), .val (.ref a2), .val (.int p3), .val (.int (0 : Int32))] [(.ref w_value_a1), (.int p3), (.ref a2), (.int (0 : Int32)), (.ref w_value_a1)])) (fun t k => st7 t k) ?_
  obtain ⟨cl8, Ar8, -, S8, N8v, -, -⟩ := id V_w_value_a1
  refine own_pre (B := T7.setTop (mkF m 22 #[.val (.ref a1), .val (.ref a2), .val (.int p3), .val (.int (0 : Int32))] [(.int mm), (.int p3), (.ref a2), (.int (0 : Int32)), (.ref w_value_a1)])) (fun t k => X7.arraylength hx (by rw [e7]; exact Ar8.1) (State.isArrayOf_alike hZ.alike Ar8.2.1) (g := (mkF m 21 #[.val (.ref a1), .val (.ref a2), .val (.int p3), .val (.int (0 : Int32))] [(.ref w_value_a1), (.int p3), (.ref a2), (.int (0 : Int32)), (.ref w_value_a1)])) rfl rfl (hb hby d17_21) t (by rw [len_of S8 N8v]; exact k)) ?_
  have K9 : Keep h0 h0 [a2] := (Keep.refl h0 [a2])
  obtain ⟨T10, h10, L10, xs10, X10, e10, N10, Kc10, V10, st10⟩ := own_cp X7 hx hZ hown (hw _ (ow 106 rfl)) (hw _ (ow 109 rfl)) (hw _ (ow 107 rfl)) (hw _ (ow 108 rfl)) e7 V_w_value_a1 V_a2 (by decide) hp (own_nn0 V_w_value_a1) (own_z (own_nn0 V_w_value_a1)) hfit Nh5 g_a2 (g := (mkF m 22 #[.val (.ref a1), .val (.ref a2), .val (.int p3), .val (.int (0 : Int32))] [(.int mm), (.int p3), (.ref a2), (.int (0 : Int32)), (.ref w_value_a1)])) rfl (by rw [hml]; rfl) rfl (hb hby d17_22) (by decide) (W := 0) (by show 2 * 0 + _ ≤ _; exact Nat.le_of_eq rfl) (by decide)
  refine own_pre (B := T10.setTop (mkF m 25 #[.val (.ref a1), .val (.ref a2), .val (.int p3), .val (.int (0 : Int32))] [])) (fun t k => st10 t k) ?_
  refine own_pre (B := T10.setTop (mkF m 43 #[.val (.ref a1), .val (.ref a2), .val (.int p3), .val (.int (0 : Int32))] [])) (fun t k => XS.goto X10.here hx rfl (pc0 := 25) (pc' := 43) rfl (hb hby d17_25) (by decide) (by decide) k) ?_
  have K11 : Keep h0 h10 [a2] := (Keep.trans K9 Kc10 (allS (P := fun x => x ∈ [a2] ∨ h0.size ≤ x) (Or.inl (List.mem_of_getElem? (i := 0) rfl)) all0))
  obtain ⟨fsr12, hrr12, hrunr12, hendedr12, hWr12, hsamer12⟩ := X10.leave (v := none) (fun _ => rfl)
  refine ⟨_, _, (X10.returnOut hx Bd.returns (hb hby d17_43) hrr12), hrunr12, hendedr12, _, _, rfl, ?_, ⟨_, rfl⟩, hWr12, hsamer12.mono (by decide) (by decide)⟩
  show Q17 Z a1 a2 p3 cs w_value_a1 k_w_value_a1 ys mm k_a2 xs NN h0 n0 _ T10.heap _
  rw [e10]
  exact ⟨xs10, rfl, N10, K11, V10⟩
theorem d16_0 : decode jdk_68_method_71_code 0 = .ok (.getstatic 18, 3) := by decide +kernel
theorem d16_3 : decode jdk_68_method_71_code 3 = .ok (.ifCond .eq 18, 3) := by decide +kernel
theorem d16_6 : decode jdk_68_method_71_code 6 = .ok (.aload_n 0, 1) := by decide +kernel
theorem d16_7 : decode jdk_68_method_71_code 7 = .ok (.getfield 22, 3) := by decide +kernel
theorem d16_10 : decode jdk_68_method_71_code 10 = .ok (.aload_n 1, 1) := by decide +kernel
theorem d16_11 : decode jdk_68_method_71_code 11 = .ok (.invokevirtual 40, 3) := by decide +kernel
theorem d16_14 : decode jdk_68_method_71_code 14 = .ok (.if_icmp .eq 7, 3) := by decide +kernel
theorem d16_21 : decode jdk_68_method_71_code 21 = .ok (.return_, 1) := by decide +kernel
theorem pn_16 : plainName "java/lang/AbstractStringBuilder" = true := by first | (simp [plainName, overriddenIn]; done) | decide +kernel
theorem ef_16 (m : MethodId) (x0 : Addr) (x1 : Addr) : entryFrame m #[(.ref x0), (.ref x1)] 2 = mkF m 0 #[.val (.ref x0), .val (.ref x1)] [] := by first | (simp [entryFrame, mkF, argsToLocals, Value.category]; done) | rfl
def Q16 (Z : State) (a1 : Addr) (a2 : Addr) (cs : Int32) (w_value_a2 : Addr) (k_w_value_a2 : ClassId) (ys : List Value) (mm : Int32) (h0 : Heap) (n0 : Nat) (v : Option Value) (h : Heap) (L : List Loc) : Prop := v = none ∧ Fr n0 L ∧ h = h0
set_option maxRecDepth 65536 in
set_option maxHeartbeats 40000000 in
theorem rm16 (l : Launch) (Z : State) (a0 : Array Value) (hw : ∀ d ∈ tables_1, d.before a0 Z = true) (ws : List Jvm.Cond) (a1 : Addr) (a2 : Addr) (cs : Int32) (w_value_a2 : Addr) (k_w_value_a2 : ClassId) (ys : List Value) (mm : Int32) (h0 : Heap) (n0 : Nat) (Z0 : n0 ≤ h0.size) (O0 : Old Z n0 h0) (SCS : Sta Z Z.heap "java/lang/String" "COMPACT_STRINGS" "Z" (.int cs)) (hcs : ¬ cs = (0 : Int32)) (E_a2 : Exa Z h0 a2 "java/lang/String") (F_coder_a2 : Fld Z h0 a2 "java/lang/String" "coder" "B" (.int (0 : Int32))) (F_value_a2 : Fld Z h0 a2 "java/lang/String" "value" "[B" (.ref w_value_a2)) (V_w_value_a2 : Arv Z h0 w_value_a2 k_w_value_a2 .byte mm ys (.int (0 : Int32))) (F_coder_a1 : Fld Z h0 a1 "java/lang/AbstractStringBuilder" "coder" "B" (.int (0 : Int32))) :
    MetFree l (⟨"java/lang/AbstractStringBuilder", "inflateIfNeededFor", "(Ljava/lang/String;)V"⟩ : MethodName) (head1 (Jvm.Cond.code (⟨"java/lang/AbstractStringBuilder", "inflateIfNeededFor", "(Ljava/lang/String;)V"⟩ : MethodName) jdk_68_method_71_code 2 none :: ws) ({ frames := 1, cells := 0, slots := 0, locals := 13 } : Room)) (fun a U => a = #[(.ref a1), (.ref a2)] ∧ Z.Warmed39 U.vm ∧ U.heap = h0) (fun _ _ _ _ _ => True) (fun _ U o U' => ∃ v L, o = .returned v ∧ Q16 Z a1 a2 cs w_value_a2 k_w_value_a2 ys mm h0 n0 v U'.heap L ∧ FrameEnd U o U' L ({ frames := 1, cells := 0, slots := 0, locals := 13 } : Room).cells ({ frames := 1, cells := 0, slots := 0, locals := 13 } : Room).slots) := by
  refine MetFree.of_bodySF (plainFor_of_name pn_16) hisR ?_
  intro p e s m args below meth c s₁ Bd hml0 hP hK
  obtain ⟨rfl, hZ, hh⟩ := hP
  have hx := Bd.exec
  have hby := Bd.bytes
  have hml : c.maxLocals = 2 := hml0
  have hown : s.vm.findClass "java/lang/AbstractStringBuilder" = some m.cls := findClass_of_methodNamed Bd.named
  have hnm := (name_of_methodNamed Bd.named Bd.method).1
  have X0 : Stand p l e ({ frames := 1, cells := 0, slots := 0, locals := 13 } : Room) s m #[(.ref a1), (.ref a2)] below meth c s₁ [] 0 0 := Stand.of_body Bd
  have e0 : s₁.heap = h0 := by rw [← hh, Bd.state]; rfl
  have N0 := Fr.nil n0
  apply own_in
  refine own_pre (B := s₁.setTop (mkF m 0 #[.val (.ref a1), .val (.ref a2)] [])) (fun t k => castTop (ef_16 m a1 a2) k) ?_
  obtain ⟨T3, X3, e3, st3⟩ := getS2 X0 hx hZ hown (host := "") (Or.inl (hw _ (ow 29 rfl))) Via.refl e0 (Sta.ext O0.2 SCS) (g := (mkF m 0 #[.val (.ref a1), .val (.ref a2)] [])) rfl (hb hby d16_0)
  refine own_pre (B := T3.setTop (mkF m 3 #[.val (.ref a1), .val (.ref a2)] [(.int cs)])) (fun t k => st3 t k) ?_
  refine own_pre (B := T3.setTop (mkF m 6 #[.val (.ref a1), .val (.ref a2)] [])) (fun t k => XS.ifNo X3.here hx rfl (hb hby d16_3) rfl ((if0 _ _).trans (feq hcs).1) k) ?_
  refine own_pre (B := T3.setTop (mkF m 7 #[.val (.ref a1), .val (.ref a2)] [(.ref a1)])) (fun t k => XS.aloadN X3.here hx rfl (hb hby d16_6) rfl rfl k) ?_
  obtain ⟨T4, X4, e4, st4⟩ := getF X3 hx hZ hown (host := "") (Or.inl (hw _ (ow 32 rfl))) Via.refl e3 F_coder_a1 (g := (mkF m 7 #[.val (.ref a1), .val (.ref a2)] [(.ref a1)])) rfl rfl (hb hby d16_7)
  refine own_pre (B := T4.setTop (mkF m 10 #[.val (.ref a1), .val (.ref a2)] [(.int (0 : Int32))])) (fun t k => st4 t k) ?_
  refine own_pre (B := T4.setTop (mkF m 11 #[.val (.ref a1), .val (.ref a2)] [(.ref a2), (.int (0 : Int32))])) (fun t k => XS.aloadN X4.here hx rfl (hb hby d16_10) rfl rfl k) ?_
  obtain ⟨cq5, kq5, q5a, q5b, q5c⟩ := isOf hZ e4 E_a2
  obtain ⟨_, _, ⟨T5, L5, k5, n5⟩, -, X5, ⟨Lc5, hQ5, l5, y5, z5⟩, st5⟩ := X4.virtualBack hx (y := (⟨"java/lang/String", "coder", "()B"⟩ : MethodName)) (z := (⟨"java/lang/String", "coder", "()B"⟩ : MethodName)) hown (mvT hZ (hw _ (ow 100 rfl))) (mvT hZ (hw _ (ow 84 rfl))) (notFace_of_selects (args := #[]) (mvT hZ (hw _ (ow 86 rfl)))) (mvT hZ (hw _ (ow 86 rfl))) (mvT hZ (hw _ (ow 85 rfl))) (by decide) (backOf (W := 1) (rm14 l Z a0 hw [] a2 cs h0 n0 Z0 O0 SCS hcs F_coder_a2) hZ (hw _ (ow 87 rfl)) (hw _ (ow 1 rfl)) (by decide) (by decide)) q5a q5c (g := (mkF m 11 #[.val (.ref a1), .val (.ref a2)] [(.ref a2), (.int (0 : Int32))])) rfl (by rw [hml]; rfl) (Steps.refl _) (argsL := []) (rest := [(.int (0 : Int32))]) (lenOf pd_0 rfl) rfl (by show 2 * 0 + _ ≤ _; exact Nat.le_of_eq rfl) (hb hby d16_11) (fun _ _ => ⟨rfl, e4, (by decide : 0 + 0 ≤ _), (by decide : 0 + 0 ≤ _)⟩)
  dsimp only [Pt.U, Pt.locs, Pt.cells, Pt.slots] at X5 l5 y5 z5 st5 hQ5
  subst l5 y5 z5
  obtain ⟨rfl, N5q, e5⟩ := hQ5
  have N5 := Fr.app N0 N5q
  obtain ⟨Lh6, Xh6, Nh6⟩ := own_hide X5 N5
  refine own_pre (B := T5.setTop (mkF m 14 #[.val (.ref a1), .val (.ref a2)] [(.int (0 : Int32)), (.int (0 : Int32))])) (fun t k => st5.trans k) ?_
  refine own_pre (B := T5.setTop (mkF m 21 #[.val (.ref a1), .val (.ref a2)] [])) (fun t k => XS.icmpYes Xh6.here hx rfl (pc0 := 14) (pc' := 21) rfl (hb hby d16_14) rfl (teq (rfl : (0 : Int32) = (0 : Int32))).1 (by decide) (by decide) k) ?_
  obtain ⟨fsr7, hrr7, hrunr7, hendedr7, hWr7, hsamer7⟩ := Xh6.leave (v := none) (fun _ => rfl)
  refine ⟨_, _, (Xh6.returnOut hx Bd.returns (hb hby d16_21) hrr7), hrunr7, hendedr7, _, _, rfl, ?_, ⟨_, rfl⟩, hWr7, hsamer7.mono (by decide) (by decide)⟩
  show Q16 Z a1 a2 cs w_value_a2 k_w_value_a2 ys mm h0 n0 _ T5.heap _
  rw [e5]
  exact ⟨rfl, Nh6, rfl⟩
theorem pd_5 : parseMethodDescriptor "(Ljava/lang/String;)V" = some ⟨[(.object "java/lang/String")], none⟩ := by decide +kernel
theorem pd_6 : parseMethodDescriptor "([BIB)V" = some ⟨[(.array .byte), .int, .byte], none⟩ := by decide +kernel
theorem d15_0 : decode jdk_68_method_73_code 0 = .ok (.aload_n 0, 1) := by decide +kernel
theorem d15_1 : decode jdk_68_method_73_code 1 = .ok (.aload_n 2, 1) := by decide +kernel
theorem d15_2 : decode jdk_68_method_73_code 2 = .ok (.invokevirtual 397, 3) := by decide +kernel
theorem d15_5 : decode jdk_68_method_73_code 5 = .ok (.aload_n 2, 1) := by decide +kernel
theorem d15_6 : decode jdk_68_method_73_code 6 = .ok (.aload_n 0, 1) := by decide +kernel
theorem d15_7 : decode jdk_68_method_73_code 7 = .ok (.getfield 15, 3) := by decide +kernel
theorem d15_10 : decode jdk_68_method_73_code 10 = .ok (.iload_n 1, 1) := by decide +kernel
theorem d15_11 : decode jdk_68_method_73_code 11 = .ok (.aload_n 0, 1) := by decide +kernel
theorem d15_12 : decode jdk_68_method_73_code 12 = .ok (.getfield 22, 3) := by decide +kernel
theorem d15_15 : decode jdk_68_method_73_code 15 = .ok (.invokevirtual 399, 3) := by decide +kernel
theorem d15_18 : decode jdk_68_method_73_code 18 = .ok (.return_, 1) := by decide +kernel
theorem pn_15 : plainName "java/lang/AbstractStringBuilder" = true := by first | (simp [plainName, overriddenIn]; done) | decide +kernel
theorem ef_15 (m : MethodId) (x0 : Addr) (x1 : Int32) (x2 : Addr) : entryFrame m #[(.ref x0), (.int x1), (.ref x2)] 3 = mkF m 0 #[.val (.ref x0), .val (.int x1), .val (.ref x2)] [] := by first | (simp [entryFrame, mkF, argsToLocals, Value.category]; done) | rfl
def Q15 (Z : State) (a1 : Addr) (p2 : Int32) (a3 : Addr) (cs : Int32) (w_value_a3 : Addr) (k_w_value_a3 : ClassId) (ys : List Value) (mm : Int32) (w_value_a1 : Addr) (k_w_value_a1 : ClassId) (xs : List Value) (NN : Int32) (h0 : Heap) (n0 : Nat) (v : Option Value) (h : Heap) (L : List Loc) : Prop := ∃ (ub0 : List Value), v = none ∧ Fr n0 L ∧ Keep h0 h [w_value_a1] ∧ Arv Z h w_value_a1 k_w_value_a1 .byte NN ub0 (.int (0 : Int32))
set_option maxRecDepth 65536 in
set_option maxHeartbeats 40000000 in
theorem rm15 (l : Launch) (Z : State) (a0 : Array Value) (hw : ∀ d ∈ tables_1, d.before a0 Z = true) (ws : List Jvm.Cond) (a1 : Addr) (p2 : Int32) (a3 : Addr) (cs : Int32) (w_value_a3 : Addr) (k_w_value_a3 : ClassId) (ys : List Value) (mm : Int32) (w_value_a1 : Addr) (k_w_value_a1 : ClassId) (xs : List Value) (NN : Int32) (h0 : Heap) (n0 : Nat) (Z0 : n0 ≤ h0.size) (O0 : Old Z n0 h0) (SCS : Sta Z Z.heap "java/lang/String" "COMPACT_STRINGS" "Z" (.int cs)) (hcs : ¬ cs = (0 : Int32)) (E_a3 : Exa Z h0 a3 "java/lang/String") (F_coder_a3 : Fld Z h0 a3 "java/lang/String" "coder" "B" (.int (0 : Int32))) (F_value_a3 : Fld Z h0 a3 "java/lang/String" "value" "[B" (.ref w_value_a3)) (V_w_value_a3 : Arv Z h0 w_value_a3 k_w_value_a3 .byte mm ys (.int (0 : Int32))) (E_a1 : Exa Z h0 a1 "java/lang/StringBuilder") (F_coder_a1 : Fld Z h0 a1 "java/lang/AbstractStringBuilder" "coder" "B" (.int (0 : Int32))) (F_value_a1 : Fld Z h0 a1 "java/lang/AbstractStringBuilder" "value" "[B" (.ref w_value_a1)) (V_w_value_a1 : Arv Z h0 w_value_a1 k_w_value_a1 .byte NN xs (.int (0 : Int32))) (hp : ¬ p2 < 0) (hfit : p2.toNatClampNeg + mm.toNatClampNeg ≤ NN.toNatClampNeg) (g_w_value_a1 : n0 ≤ w_value_a1) :
    MetFree l (⟨"java/lang/AbstractStringBuilder", "putStringAt", "(ILjava/lang/String;)V"⟩ : MethodName) (head1 (Jvm.Cond.code (⟨"java/lang/AbstractStringBuilder", "putStringAt", "(ILjava/lang/String;)V"⟩ : MethodName) jdk_68_method_73_code 3 none :: ws) ({ frames := 2, cells := 0, slots := 0, locals := 33 } : Room)) (fun a U => a = #[(.ref a1), (.int p2), (.ref a3)] ∧ Z.Warmed39 U.vm ∧ U.heap = h0) (fun _ _ _ _ _ => True) (fun _ U o U' => ∃ v L, o = .returned v ∧ Q15 Z a1 p2 a3 cs w_value_a3 k_w_value_a3 ys mm w_value_a1 k_w_value_a1 xs NN h0 n0 v U'.heap L ∧ FrameEnd U o U' L ({ frames := 2, cells := 0, slots := 0, locals := 33 } : Room).cells ({ frames := 2, cells := 0, slots := 0, locals := 33 } : Room).slots) := by
  refine MetFree.of_bodySF (plainFor_of_name pn_15) hisR ?_
  intro p e s m args below meth c s₁ Bd hml0 hP hK
  obtain ⟨rfl, hZ, hh⟩ := hP
  have hx := Bd.exec
  have hby := Bd.bytes
  have hml : c.maxLocals = 3 := hml0
  have hown : s.vm.findClass "java/lang/AbstractStringBuilder" = some m.cls := findClass_of_methodNamed Bd.named
  have hnm := (name_of_methodNamed Bd.named Bd.method).1
  have X0 : Stand p l e ({ frames := 2, cells := 0, slots := 0, locals := 33 } : Room) s m #[(.ref a1), (.int p2), (.ref a3)] below meth c s₁ [] 0 0 := Stand.of_body Bd
  have e0 : s₁.heap = h0 := by rw [← hh, Bd.state]; rfl
  have N0 := Fr.nil n0
  apply own_in
  refine own_pre (B := s₁.setTop (mkF m 0 #[.val (.ref a1), .val (.int p2), .val (.ref a3)] [])) (fun t k => castTop (ef_15 m a1 p2 a3) k) ?_
  refine own_pre (B := s₁.setTop (mkF m 1 #[.val (.ref a1), .val (.int p2), .val (.ref a3)] [(.ref a1)])) (fun t k => XS.aloadN X0.here hx rfl (hb hby d15_0) rfl rfl k) ?_
  refine own_pre (B := s₁.setTop (mkF m 2 #[.val (.ref a1), .val (.int p2), .val (.ref a3)] [(.ref a3), (.ref a1)])) (fun t k => XS.aloadN X0.here hx rfl (hb hby d15_1) rfl rfl k) ?_
  obtain ⟨cq4, q4, q4'⟩ := (E_a1).cell
  obtain ⟨_, _, ⟨T4, L4, k4, n4⟩, -, X4, ⟨Lc4, hQ4, l4, y4, z4⟩, st4⟩ := X0.privateBack hx (y := (⟨"java/lang/AbstractStringBuilder", "inflateIfNeededFor", "(Ljava/lang/String;)V"⟩ : MethodName)) hown (mvT hZ (hw _ (ow 95 rfl))) (mvT hZ (hw _ (ow 96 rfl))) (own_selq hZ (own_nf (hw _ (ow 54 rfl)) (hw _ (ow 52 rfl)) rfl) (hw _ (ow 97 rfl)) (hw _ (ow 96 rfl)) (by decide)) (Cond.privateMethod_at (mvP hZ (hw _ (ow 97 rfl)) (args := #[]))) (mvT hZ (hw _ (ow 99 rfl))) (by decide) (backOf (W := 0) (rm16 l Z a0 hw [] a1 a3 cs w_value_a3 k_w_value_a3 ys mm h0 n0 Z0 O0 SCS hcs E_a3 F_coder_a3 F_value_a3 V_w_value_a3 F_coder_a1) hZ (hw _ (ow 99 rfl)) (hw _ (ow 24 rfl)) (by decide) (by decide)) (g := (mkF m 2 #[.val (.ref a1), .val (.int p2), .val (.ref a3)] [(.ref a3), (.ref a1)])) rfl (by rw [hml]; rfl) (Steps.refl _) (a := a1) (by rw [e0]; exact q4) q4' (argsL := [(.ref a3)]) (rest := []) (lenOf pd_5 rfl) rfl (by show 2 * 0 + _ ≤ _; exact Nat.le_of_eq rfl) (hb hby d15_2) (fun _ _ => ⟨rfl, e0, (by decide : 0 + 0 ≤ _), (by decide : 0 + 0 ≤ _)⟩)
  dsimp only [Pt.U, Pt.locs, Pt.cells, Pt.slots] at X4 l4 y4 z4 st4 hQ4
  subst l4 y4 z4
  obtain ⟨rfl, N4q, e4⟩ := hQ4
  have N4 := Fr.app N0 N4q
  obtain ⟨Lh5, Xh5, Nh5⟩ := own_hide X4 N4
  refine own_pre (B := T4.setTop (mkF m 5 #[.val (.ref a1), .val (.int p2), .val (.ref a3)] [])) (fun t k => st4.trans k) ?_
  refine own_pre (B := T4.setTop (mkF m 6 #[.val (.ref a1), .val (.int p2), .val (.ref a3)] [(.ref a3)])) (fun t k => XS.aloadN Xh5.here hx rfl (hb hby d15_5) rfl rfl k) ?_
  refine own_pre (B := T4.setTop (mkF m 7 #[.val (.ref a1), .val (.int p2), .val (.ref a3)] [(.ref a1), (.ref a3)])) (fun t k => XS.aloadN Xh5.here hx rfl (hb hby d15_6) rfl rfl k) ?_
  obtain ⟨T6, X6, e6, st6⟩ := getF Xh5 hx hZ hown (host := "") (Or.inl (hw _ (ow 30 rfl))) Via.refl e4 F_value_a1 (g := (mkF m 7 #[.val (.ref a1), .val (.int p2), .val (.ref a3)] [(.ref a1), (.ref a3)])) rfl rfl (hb hby d15_7)
  refine own_pre (B := T6.setTop (mkF m 10 #[.val (.ref a1), .val (.int p2), .val (.ref a3)] [(.ref w_value_a1), (.ref a3)])) (fun t k => st6 t k) ?_
  refine own_pre (B := T6.setTop (mkF m 11 #[.val (.ref a1), .val (.int p2), .val (.ref a3)] [(.int p2), (.ref w_value_a1), (.ref a3)])) (fun t k => XS.iloadN X6.here hx rfl (hb hby d15_10) rfl k) ?_
  refine own_pre (B := T6.setTop (mkF m 12 #[.val (.ref a1), .val (.int p2), .val (.ref a3)] [(.ref a1), (.int p2), (.ref w_value_a1), (.ref a3)])) (fun t k => XS.aloadN X6.here hx rfl (hb hby d15_11) rfl rfl k) ?_
  obtain ⟨T7, X7, e7, st7⟩ := getF X6 hx hZ hown (host := "") (Or.inl (hw _ (ow 32 rfl))) Via.refl e6 F_coder_a1 (g := (mkF m 12 #[.val (.ref a1), .val (.int p2), .val (.ref a3)] [(.ref a1), (.int p2), (.ref w_value_a1), (.ref a3)])) rfl rfl (hb hby d15_12)
  refine own_pre (B := T7.setTop (mkF m 15 #[.val (.ref a1), .val (.int p2), .val (.ref a3)] [(.int (0 : Int32)), (.int p2), (.ref w_value_a1), (.ref a3)])) (fun t k => st7 t k) ?_
  obtain ⟨cq8, kq8, q8a, q8b, q8c⟩ := isOf hZ e7 E_a3
  obtain ⟨_, _, ⟨T8, L8, k8, n8⟩, -, X8, ⟨Lc8, hQ8, l8, y8, z8⟩, st8⟩ := X7.virtualBack hx (y := (⟨"java/lang/String", "getBytes", "([BIB)V"⟩ : MethodName)) (z := (⟨"java/lang/String", "getBytes", "([BIB)V"⟩ : MethodName)) hown (mvT hZ (hw _ (ow 101 rfl))) (mvT hZ (hw _ (ow 102 rfl))) (notFace_of_selects (args := #[]) (mvT hZ (hw _ (ow 104 rfl)))) (mvT hZ (hw _ (ow 104 rfl))) (mvT hZ (hw _ (ow 103 rfl))) (by decide) (backOf (W := 0) (rm17 l Z a0 hw [] a3 w_value_a1 p2 cs w_value_a3 k_w_value_a3 ys mm k_w_value_a1 xs NN h0 n0 Z0 O0 SCS hcs E_a3 F_coder_a3 F_value_a3 V_w_value_a3 V_w_value_a1 hp hfit g_w_value_a1) hZ (hw _ (ow 105 rfl)) (hw _ (ow 1 rfl)) (by decide) (by decide)) q8a q8c (g := (mkF m 15 #[.val (.ref a1), .val (.int p2), .val (.ref a3)] [(.int (0 : Int32)), (.int p2), (.ref w_value_a1), (.ref a3)])) rfl (by rw [hml]; rfl) (Steps.refl _) (argsL := [(.ref w_value_a1), (.int p2), (.int (0 : Int32))]) (rest := []) (lenOf pd_6 rfl) rfl (by show 2 * 0 + _ ≤ _; exact Nat.le_of_eq rfl) (hb hby d15_15) (fun _ _ => ⟨rfl, e7, (by decide : 0 + 0 ≤ _), (by decide : 0 + 0 ≤ _)⟩)
  dsimp only [Pt.U, Pt.locs, Pt.cells, Pt.slots] at X8 l8 y8 z8 st8 hQ8
  subst l8 y8 z8
  obtain ⟨ub0_8, rfl, N8q, K8, q8_0⟩ := hQ8
  have N8 := Fr.app Nh5 N8q
  have K9 : Keep h0 h0 [w_value_a1] := (Keep.refl h0 [w_value_a1])
  obtain ⟨Lh10, Xh10, Nh10⟩ := own_hide X8 N8
  refine own_pre (B := T8.setTop (mkF m 18 #[.val (.ref a1), .val (.int p2), .val (.ref a3)] [])) (fun t k => st8.trans k) ?_
  have K11 : Keep h0 T8.heap [w_value_a1] := (Keep.trans K9 K8 (allS (P := fun x => x ∈ [w_value_a1] ∨ h0.size ≤ x) (Or.inl (List.mem_of_getElem? (i := 0) rfl)) all0))
  obtain ⟨fsr12, hrr12, hrunr12, hendedr12, hWr12, hsamer12⟩ := Xh10.leave (v := none) (fun _ => rfl)
  refine ⟨_, _, (Xh10.returnOut hx Bd.returns (hb hby d15_18) hrr12), hrunr12, hendedr12, _, _, rfl, ?_, ⟨_, rfl⟩, hWr12, hsamer12.mono (by decide) (by decide)⟩
  show Q15 Z a1 p2 a3 cs w_value_a3 k_w_value_a3 ys mm w_value_a1 k_w_value_a1 xs NN h0 n0 _ T8.heap _
  exact ⟨ub0_8, rfl, Nh10, K11, q8_0⟩
def own_A (c N m : Int32) : Prop := 0 ≤ c.toInt ∧ c.toInt ≤ N.toInt ∧ 16 ≤ N.toInt ∧ N.toInt ≤ 172 ∧ 0 ≤ m.toInt ∧ c.toInt + m.toInt ≤ 85
theorem own_sum {c N m : Int32} (h : own_A c N m) : (c + m).toInt = c.toInt + m.toInt := by
  obtain ⟨h1, h2, h3, h4, h5, h6⟩ := h
  rw [Int32.toInt_add]; exact Int.bmod_eq_of_le (by omega) (by omega)
theorem own_AC {c N m : Int32} (h : own_A c N m) : own_C N (c + m) := by
  have e := own_sum h
  obtain ⟨h1, h2, h3, h4, h5, h6⟩ := h
  exact ⟨h3, h4, by omega, by omega⟩
theorem own_A0 {c N m : Int32} (h : own_A c N m) : ¬ c < 0 := by
  rw [Int32.lt_iff_toInt_lt, show (0 : Int32).toInt = 0 by decide]; have := h.1; omega
theorem own_fit {c N m n : Int32} (h : own_A c N m) (q : own_P n (c + m)) : c.toNatClampNeg + m.toNatClampNeg ≤ n.toNatClampNeg := by
  have e := own_sum h
  obtain ⟨h1, h2, h3, h4, h5, h6⟩ := h
  obtain ⟨q1, q2, q3⟩ := q
  simp only [Int32.toNatClampNeg]; omega
theorem pd_7 : parseMethodDescriptor "()I" = some ⟨[], some .int⟩ := by decide +kernel
theorem pd_8 : parseMethodDescriptor "(I)V" = some ⟨[.int], none⟩ := by decide +kernel
theorem pd_9 : parseMethodDescriptor "(ILjava/lang/String;)V" = some ⟨[.int, (.object "java/lang/String")], none⟩ := by decide +kernel
theorem d12_0 : decode jdk_68_method_22_code 0 = .ok (.aload_n 1, 1) := by decide +kernel
theorem d12_1 : decode jdk_68_method_22_code 1 = .ok (.ifnonnull 8, 3) := by decide +kernel
theorem d12_9 : decode jdk_68_method_22_code 9 = .ok (.aload_n 1, 1) := by decide +kernel
theorem d12_10 : decode jdk_68_method_22_code 10 = .ok (.invokevirtual 32, 3) := by decide +kernel
theorem d12_13 : decode jdk_68_method_22_code 13 = .ok (.istore_n 2, 1) := by decide +kernel
theorem d12_14 : decode jdk_68_method_22_code 14 = .ok (.aload_n 0, 1) := by decide +kernel
theorem d12_15 : decode jdk_68_method_22_code 15 = .ok (.aload_n 0, 1) := by decide +kernel
theorem d12_16 : decode jdk_68_method_22_code 16 = .ok (.getfield 79, 3) := by decide +kernel
theorem d12_19 : decode jdk_68_method_22_code 19 = .ok (.iload_n 2, 1) := by decide +kernel
theorem d12_20 : decode jdk_68_method_22_code 20 = .ok (.iadd, 1) := by decide +kernel
theorem d12_21 : decode jdk_68_method_22_code 21 = .ok (.invokevirtual 100, 3) := by decide +kernel
theorem d12_24 : decode jdk_68_method_22_code 24 = .ok (.aload_n 0, 1) := by decide +kernel
theorem d12_25 : decode jdk_68_method_22_code 25 = .ok (.aload_n 0, 1) := by decide +kernel
theorem d12_26 : decode jdk_68_method_22_code 26 = .ok (.getfield 79, 3) := by decide +kernel
theorem d12_29 : decode jdk_68_method_22_code 29 = .ok (.aload_n 1, 1) := by decide +kernel
theorem d12_30 : decode jdk_68_method_22_code 30 = .ok (.invokevirtual 208, 3) := by decide +kernel
theorem d12_33 : decode jdk_68_method_22_code 33 = .ok (.aload_n 0, 1) := by decide +kernel
theorem d12_34 : decode jdk_68_method_22_code 34 = .ok (.dup, 1) := by decide +kernel
theorem d12_35 : decode jdk_68_method_22_code 35 = .ok (.getfield 79, 3) := by decide +kernel
theorem d12_38 : decode jdk_68_method_22_code 38 = .ok (.iload_n 2, 1) := by decide +kernel
theorem d12_39 : decode jdk_68_method_22_code 39 = .ok (.iadd, 1) := by decide +kernel
theorem d12_40 : decode jdk_68_method_22_code 40 = .ok (.putfield 79, 3) := by decide +kernel
theorem d12_43 : decode jdk_68_method_22_code 43 = .ok (.aload_n 0, 1) := by decide +kernel
theorem d12_44 : decode jdk_68_method_22_code 44 = .ok (.areturn, 1) := by decide +kernel
theorem pn_12 : plainName "java/lang/AbstractStringBuilder" = true := by first | (simp [plainName, overriddenIn]; done) | decide +kernel
theorem ef_12 (m : MethodId) (x0 : Addr) (x1 : Addr) : entryFrame m #[(.ref x0), (.ref x1)] 3 = mkF m 0 #[.val (.ref x0), .val (.ref x1), .unset] [] := by first | (simp [entryFrame, mkF, argsToLocals, Value.category]; done) | rfl
def Q12 (Z : State) (a1 : Addr) (a2 : Addr) (w_value_a1 : Addr) (k_w_value_a1 : ClassId) (xs : List Value) (NN : Int32) (w_count_a1 : Int32) (cs : Int32) (w_value_a2 : Addr) (k_w_value_a2 : ClassId) (ys : List Value) (mm : Int32) (h0 : Heap) (n0 : Nat) (v : Option Value) (h : Heap) (L : List Loc) : Prop := ∃ (vx : Addr) (kx : ClassId) (nx : Int32) (xx : List Value), v = some (.ref a1) ∧ Fr n0 L ∧ Keep h0 h [a1, w_value_a1] ∧ n0 ≤ vx ∧ (vx = w_value_a1 ∨ h0.size ≤ vx) ∧ a1 ≠ vx ∧ own_P nx (w_count_a1 + mm) ∧ Exa Z h a1 "java/lang/StringBuilder" ∧ Fld Z h a1 "java/lang/AbstractStringBuilder" "value" "[B" (.ref vx) ∧ Fld Z h a1 "java/lang/AbstractStringBuilder" "coder" "B" (.int (0 : Int32)) ∧ Fld Z h a1 "java/lang/AbstractStringBuilder" "count" "I" (.int (w_count_a1 + mm)) ∧ Exa Z h vx "[B" ∧ Arv Z h vx kx .byte nx xx (.int (0 : Int32))
set_option maxRecDepth 65536 in
set_option maxHeartbeats 40000000 in
theorem rm12 (l : Launch) (Z : State) (a0 : Array Value) (hw : ∀ d ∈ tables_1, d.before a0 Z = true) (ws : List Jvm.Cond) (a1 : Addr) (a2 : Addr) (w_value_a1 : Addr) (k_w_value_a1 : ClassId) (xs : List Value) (NN : Int32) (w_count_a1 : Int32) (cs : Int32) (w_value_a2 : Addr) (k_w_value_a2 : ClassId) (ys : List Value) (mm : Int32) (h0 : Heap) (n0 : Nat) (Z0 : n0 ≤ h0.size) (E_a1 : Exa Z h0 a1 "java/lang/StringBuilder") (F_value_a1 : Fld Z h0 a1 "java/lang/AbstractStringBuilder" "value" "[B" (.ref w_value_a1)) (F_coder_a1 : Fld Z h0 a1 "java/lang/AbstractStringBuilder" "coder" "B" (.int (0 : Int32))) (V_w_value_a1 : Arv Z h0 w_value_a1 k_w_value_a1 .byte NN xs (.int (0 : Int32))) (E_w_value_a1 : Exa Z h0 w_value_a1 "[B") (F_count_a1 : Fld Z h0 a1 "java/lang/AbstractStringBuilder" "count" "I" (.int w_count_a1)) (ne_a1_w_value_a1 : a1 ≠ w_value_a1) (g_a1 : n0 ≤ a1) (g_w_value_a1 : n0 ≤ w_value_a1) (O0 : Old Z n0 h0) (SCS : Sta Z Z.heap "java/lang/String" "COMPACT_STRINGS" "Z" (.int cs)) (hcs : ¬ cs = (0 : Int32)) (E_a2 : Exa Z h0 a2 "java/lang/String") (F_coder_a2 : Fld Z h0 a2 "java/lang/String" "coder" "B" (.int (0 : Int32))) (F_value_a2 : Fld Z h0 a2 "java/lang/String" "value" "[B" (.ref w_value_a2)) (V_w_value_a2 : Arv Z h0 w_value_a2 k_w_value_a2 .byte mm ys (.int (0 : Int32))) (ne_a2_a1 : a2 ≠ a1) (ne_a2_w_value_a1 : a2 ≠ w_value_a1) (ne_w_value_a2_a1 : w_value_a2 ≠ a1) (ne_w_value_a2_w_value_a1 : w_value_a2 ≠ w_value_a1) (hA : own_A w_count_a1 NN mm) :
    MetFree l (⟨"java/lang/AbstractStringBuilder", "append", "(Ljava/lang/String;)Ljava/lang/AbstractStringBuilder;"⟩ : MethodName) (head1 (Jvm.Cond.code (⟨"java/lang/AbstractStringBuilder", "append", "(Ljava/lang/String;)Ljava/lang/AbstractStringBuilder;"⟩ : MethodName) jdk_68_method_22_code 3 (some (.object "java/lang/AbstractStringBuilder")) :: ws) ({ frames := 4, cells := 1, slots := 172, locals := 62 } : Room)) (fun a U => a = #[(.ref a1), (.ref a2)] ∧ Z.Warmed39 U.vm ∧ U.heap = h0) (fun _ _ _ _ _ => True) (fun _ U o U' => ∃ v L, o = .returned v ∧ Q12 Z a1 a2 w_value_a1 k_w_value_a1 xs NN w_count_a1 cs w_value_a2 k_w_value_a2 ys mm h0 n0 v U'.heap L ∧ FrameEnd U o U' L ({ frames := 4, cells := 1, slots := 172, locals := 62 } : Room).cells ({ frames := 4, cells := 1, slots := 172, locals := 62 } : Room).slots) := by
  refine MetFree.of_bodySF (plainFor_of_name pn_12) hisR ?_
  intro p e s m args below meth c s₁ Bd hml0 hP hK
  obtain ⟨rfl, hZ, hh⟩ := hP
  have hx := Bd.exec
  have hby := Bd.bytes
  have hml : c.maxLocals = 3 := hml0
  have hown : s.vm.findClass "java/lang/AbstractStringBuilder" = some m.cls := findClass_of_methodNamed Bd.named
  have hnm := (name_of_methodNamed Bd.named Bd.method).1
  have X0 : Stand p l e ({ frames := 4, cells := 1, slots := 172, locals := 62 } : Room) s m #[(.ref a1), (.ref a2)] below meth c s₁ [] 0 0 := Stand.of_body Bd
  have e0 : s₁.heap = h0 := by rw [← hh, Bd.state]; rfl
  have N0 := Fr.nil n0
  apply own_in
  refine own_pre (B := s₁.setTop (mkF m 0 #[.val (.ref a1), .val (.ref a2), .unset] [])) (fun t k => castTop (ef_12 m a1 a2) k) ?_
  refine own_pre (B := s₁.setTop (mkF m 1 #[.val (.ref a1), .val (.ref a2), .unset] [(.ref a2)])) (fun t k => XS.aloadN X0.here hx rfl (hb hby d12_0) rfl rfl k) ?_
  refine own_pre (B := s₁.setTop (mkF m 9 #[.val (.ref a1), .val (.ref a2), .unset] [])) (fun t k => XS.ifnonnullYes X0.here hx rfl (pc0 := 1) (pc' := 9) rfl (hb hby d12_1) rfl (by decide) (by decide) k) ?_
  refine own_pre (B := s₁.setTop (mkF m 10 #[.val (.ref a1), .val (.ref a2), .unset] [(.ref a2)])) (fun t k => XS.aloadN X0.here hx rfl (hb hby d12_9) rfl rfl k) ?_
  obtain ⟨cq3, kq3, q3a, q3b, q3c⟩ := isOf hZ e0 E_a2
  obtain ⟨_, _, ⟨T3, L3, k3, n3⟩, -, X3, ⟨Lc3, hQ3, l3, y3, z3⟩, st3⟩ := X0.virtualBack hx (y := (⟨"java/lang/String", "length", "()I"⟩ : MethodName)) (z := (⟨"java/lang/String", "length", "()I"⟩ : MethodName)) hown (mvT hZ (hw _ (ow 77 rfl))) (mvT hZ (hw _ (ow 78 rfl))) (notFace_of_selects (args := #[]) (mvT hZ (hw _ (ow 80 rfl)))) (mvT hZ (hw _ (ow 80 rfl))) (mvT hZ (hw _ (ow 79 rfl))) (by decide) (backOf (W := 0) (rm13 l Z a0 hw [] a2 cs w_value_a2 k_w_value_a2 ys mm h0 n0 Z0 O0 SCS hcs E_a2 F_coder_a2 F_value_a2 V_w_value_a2) hZ (hw _ (ow 81 rfl)) (hw _ (ow 1 rfl)) (by decide) (by decide)) q3a q3c (g := (mkF m 10 #[.val (.ref a1), .val (.ref a2), .unset] [(.ref a2)])) rfl (by rw [hml]; rfl) (Steps.refl _) (argsL := []) (rest := []) (lenOf pd_7 rfl) rfl (by show 2 * 0 + _ ≤ _; exact Nat.le_of_eq rfl) (hb hby d12_10) (fun _ _ => ⟨rfl, e0, (by decide : 0 + 0 ≤ _), (by decide : 0 + 0 ≤ _)⟩)
  dsimp only [Pt.U, Pt.locs, Pt.cells, Pt.slots] at X3 l3 y3 z3 st3 hQ3
  subst l3 y3 z3
  obtain ⟨rfl, N3q, e3⟩ := hQ3
  have N3 := Fr.app N0 N3q
  obtain ⟨Lh4, Xh4, Nh4⟩ := own_hide X3 N3
  refine own_pre (B := T3.setTop (mkF m 13 #[.val (.ref a1), .val (.ref a2), .unset] [(.int mm)])) (fun t k => st3.trans k) ?_
  refine own_pre (B := T3.setTop (mkF m 14 #[.val (.ref a1), .val (.ref a2), .val (.int mm)] [])) (fun t k => XS.istoreN Xh4.here hx rfl (hb hby d12_13) rfl (l' := #[.val (.ref a1), .val (.ref a2), .val (.int mm)]) rfl k) ?_
  refine own_pre (B := T3.setTop (mkF m 15 #[.val (.ref a1), .val (.ref a2), .val (.int mm)] [(.ref a1)])) (fun t k => XS.aloadN Xh4.here hx rfl (hb hby d12_14) rfl rfl k) ?_
  refine own_pre (B := T3.setTop (mkF m 16 #[.val (.ref a1), .val (.ref a2), .val (.int mm)] [(.ref a1), (.ref a1)])) (fun t k => XS.aloadN Xh4.here hx rfl (hb hby d12_15) rfl rfl k) ?_
  obtain ⟨T5, X5, e5, st5⟩ := getF Xh4 hx hZ hown (host := "") (Or.inl (hw _ (ow 44 rfl))) Via.refl e3 F_count_a1 (g := (mkF m 16 #[.val (.ref a1), .val (.ref a2), .val (.int mm)] [(.ref a1), (.ref a1)])) rfl rfl (hb hby d12_16)
  refine own_pre (B := T5.setTop (mkF m 19 #[.val (.ref a1), .val (.ref a2), .val (.int mm)] [(.int w_count_a1), (.ref a1)])) (fun t k => st5 t k) ?_
  refine own_pre (B := T5.setTop (mkF m 20 #[.val (.ref a1), .val (.ref a2), .val (.int mm)] [(.int mm), (.int w_count_a1), (.ref a1)])) (fun t k => XS.iloadN X5.here hx rfl (hb hby d12_19) rfl k) ?_
  refine own_pre (B := T5.setTop (mkF m 21 #[.val (.ref a1), .val (.ref a2), .val (.int mm)] [(.int (w_count_a1 + mm)), (.ref a1)])) (fun t k => XS.iadd X5.here hx rfl (hb hby d12_20) rfl k) ?_
  obtain ⟨cq6, q6, q6'⟩ := (E_a1).cell
  obtain ⟨_, _, ⟨T6, L6, k6, n6⟩, -, X6, ⟨Lc6, hQ6, l6, y6, z6⟩, st6⟩ := X5.privateBack hx (y := (⟨"java/lang/AbstractStringBuilder", "ensureCapacityInternal", "(I)V"⟩ : MethodName)) hown (mvT hZ (hw _ (ow 51 rfl))) (mvT hZ (hw _ (ow 52 rfl))) (own_selq hZ (own_nf (hw _ (ow 54 rfl)) (hw _ (ow 52 rfl)) rfl) (hw _ (ow 53 rfl)) (hw _ (ow 52 rfl)) (by decide)) (Cond.privateMethod_at (mvP hZ (hw _ (ow 53 rfl)) (args := #[]))) (mvT hZ (hw _ (ow 55 rfl))) (by decide) (backOf (W := 0) (rm8 l Z a0 hw [] a1 (w_count_a1 + mm) w_value_a1 k_w_value_a1 xs NN w_count_a1 h0 n0 Z0 E_a1 F_value_a1 F_coder_a1 V_w_value_a1 E_w_value_a1 F_count_a1 ne_a1_w_value_a1 g_a1 g_w_value_a1 (own_AC hA)) hZ (hw _ (ow 55 rfl)) (hw _ (ow 24 rfl)) (by decide) (by decide)) (g := (mkF m 21 #[.val (.ref a1), .val (.ref a2), .val (.int mm)] [(.int (w_count_a1 + mm)), (.ref a1)])) rfl (by rw [hml]; rfl) (Steps.refl _) (a := a1) (by rw [e5]; exact q6) q6' (argsL := [(.int (w_count_a1 + mm))]) (rest := []) (lenOf pd_8 rfl) rfl (by show 2 * 0 + _ ≤ _; exact Nat.le_of_eq rfl) (hb hby d12_21) (fun _ _ => ⟨rfl, e5, (by decide : 0 + 1 ≤ _), (by decide : 0 + 172 ≤ _)⟩)
  dsimp only [Pt.U, Pt.locs, Pt.cells, Pt.slots] at X6 l6 y6 z6 st6 hQ6
  subst l6 y6 z6
  obtain ⟨vx_6, kx_6, nx_6, xx_6, rfl, N6q, K6, gv6, ov6, nv6, P6, qE6, qV6, qC6, qN6, qX6, qA6⟩ := hQ6
  have N6 := Fr.app Nh4 N6q
  have K7 : Keep h0 h0 [a1, w_value_a1] := (Keep.refl h0 [a1, w_value_a1])
  have ne8 : a2 ≠ vx_6 := own_neq ov6 ne_a2_w_value_a1 (Exa.lt E_a2)
  have ne9 : w_value_a2 ≠ vx_6 := own_neq ov6 ne_w_value_a2_w_value_a1 (Arv.lt V_w_value_a2)
  have or_vx_6 : vx_6 = w_value_a1 ∨ h0.size ≤ vx_6 := own_orig ov6 (Or.inl rfl) K7.1
  obtain ⟨Lh10, Xh10, Nh10⟩ := own_hide X6 N6
  refine own_pre (B := T6.setTop (mkF m 24 #[.val (.ref a1), .val (.ref a2), .val (.int mm)] [])) (fun t k => st6.trans k) ?_
  refine own_pre (B := T6.setTop (mkF m 25 #[.val (.ref a1), .val (.ref a2), .val (.int mm)] [(.ref a1)])) (fun t k => XS.aloadN Xh10.here hx rfl (hb hby d12_24) rfl rfl k) ?_
  refine own_pre (B := T6.setTop (mkF m 26 #[.val (.ref a1), .val (.ref a2), .val (.int mm)] [(.ref a1), (.ref a1)])) (fun t k => XS.aloadN Xh10.here hx rfl (hb hby d12_25) rfl rfl k) ?_
  obtain ⟨T11, X11, e11, st11⟩ := getF Xh10 hx hZ hown (host := "") (Or.inl (hw _ (ow 44 rfl))) Via.refl rfl qN6 (g := (mkF m 26 #[.val (.ref a1), .val (.ref a2), .val (.int mm)] [(.ref a1), (.ref a1)])) rfl rfl (hb hby d12_26)
  refine own_pre (B := T11.setTop (mkF m 29 #[.val (.ref a1), .val (.ref a2), .val (.int mm)] [(.int w_count_a1), (.ref a1)])) (fun t k => st11 t k) ?_
  refine own_pre (B := T11.setTop (mkF m 30 #[.val (.ref a1), .val (.ref a2), .val (.int mm)] [(.ref a2), (.int w_count_a1), (.ref a1)])) (fun t k => XS.aloadN X11.here hx rfl (hb hby d12_29) rfl rfl k) ?_
  have O12 := (Old.keep O0 K6 (allS (P := fun x => n0 ≤ x) g_a1 (allS (P := fun x => n0 ≤ x) g_w_value_a1 all0)))
  have c13 := (Exa.keep E_a2 K6)
  have c14 := (Fld.keep F_coder_a2 K6 (ninS ne_a2_a1 (ninS ne_a2_w_value_a1 nin0)))
  have c15 := (Fld.keep F_value_a2 K6 (ninS ne_a2_a1 (ninS ne_a2_w_value_a1 nin0)))
  have c16 := (Arv.keep V_w_value_a2 K6 (ninS ne_w_value_a2_a1 (ninS ne_w_value_a2_w_value_a1 nin0)))
  have sz17 : n0 ≤ T6.heap.size := (Nat.le_trans Z0 K6.1)
  obtain ⟨cq18, q18, q18'⟩ := (qE6).cell
  obtain ⟨_, _, ⟨T18, L18, k18, n18⟩, -, X18, ⟨Lc18, hQ18, l18, y18, z18⟩, st18⟩ := X11.privateBack hx (y := (⟨"java/lang/AbstractStringBuilder", "putStringAt", "(ILjava/lang/String;)V"⟩ : MethodName)) hown (mvT hZ (hw _ (ow 90 rfl))) (mvT hZ (hw _ (ow 91 rfl))) (own_selq hZ (own_nf (hw _ (ow 54 rfl)) (hw _ (ow 52 rfl)) rfl) (hw _ (ow 92 rfl)) (hw _ (ow 91 rfl)) (by decide)) (Cond.privateMethod_at (mvP hZ (hw _ (ow 92 rfl)) (args := #[]))) (mvT hZ (hw _ (ow 94 rfl))) (by decide) (backOf (W := 0) (rm15 l Z a0 hw [] a1 w_count_a1 a2 cs w_value_a2 k_w_value_a2 ys mm vx_6 kx_6 xx_6 nx_6 T6.heap n0 sz17 O12 SCS hcs c13 c14 c15 c16 qE6 qC6 qV6 qA6 (own_A0 hA) (own_fit hA P6) gv6) hZ (hw _ (ow 94 rfl)) (hw _ (ow 24 rfl)) (by decide) (by decide)) (g := (mkF m 30 #[.val (.ref a1), .val (.ref a2), .val (.int mm)] [(.ref a2), (.int w_count_a1), (.ref a1)])) rfl (by rw [hml]; rfl) (Steps.refl _) (a := a1) (by rw [e11]; exact q18) q18' (argsL := [(.int w_count_a1), (.ref a2)]) (rest := []) (lenOf pd_9 rfl) rfl (by show 2 * 0 + _ ≤ _; exact Nat.le_of_eq rfl) (hb hby d12_30) (fun _ _ => ⟨rfl, e11, (by decide : 1 + 0 ≤ _), (by decide : 172 + 0 ≤ _)⟩)
  dsimp only [Pt.U, Pt.locs, Pt.cells, Pt.slots] at X18 l18 y18 z18 st18 hQ18
  subst l18 y18 z18
  obtain ⟨ub0_18, rfl, N18q, K18, q18_0⟩ := hQ18
  have N18 := Fr.app Nh10 N18q
  have K19 : Keep h0 T6.heap [a1, w_value_a1] := (Keep.trans K7 K6 (allS (P := fun x => x ∈ [a1, w_value_a1] ∨ h0.size ≤ x) (Or.inl (List.mem_of_getElem? (i := 0) rfl)) (allS (P := fun x => x ∈ [a1, w_value_a1] ∨ h0.size ≤ x) (Or.inl (List.mem_of_getElem? (i := 1) rfl)) all0)))
  obtain ⟨Lh20, Xh20, Nh20⟩ := own_hide X18 N18
  refine own_pre (B := T18.setTop (mkF m 33 #[.val (.ref a1), .val (.ref a2), .val (.int mm)] [])) (fun t k => st18.trans k) ?_
  refine own_pre (B := T18.setTop (mkF m 34 #[.val (.ref a1), .val (.ref a2), .val (.int mm)] [(.ref a1)])) (fun t k => XS.aloadN Xh20.here hx rfl (hb hby d12_33) rfl rfl k) ?_
  refine own_pre (B := T18.setTop (mkF m 35 #[.val (.ref a1), .val (.ref a2), .val (.int mm)] [(.ref a1), (.ref a1)])) (fun t k => XS.dup Xh20.here hx rfl (hb hby d12_34) rfl rfl k) ?_
  have c21 := (Fld.keep qN6 K18 (ninS nv6 nin0))
  obtain ⟨T22, X22, e22, st22⟩ := getF Xh20 hx hZ hown (host := "") (Or.inl (hw _ (ow 44 rfl))) Via.refl rfl c21 (g := (mkF m 35 #[.val (.ref a1), .val (.ref a2), .val (.int mm)] [(.ref a1), (.ref a1)])) rfl rfl (hb hby d12_35)
  refine own_pre (B := T22.setTop (mkF m 38 #[.val (.ref a1), .val (.ref a2), .val (.int mm)] [(.int w_count_a1), (.ref a1)])) (fun t k => st22 t k) ?_
  refine own_pre (B := T22.setTop (mkF m 39 #[.val (.ref a1), .val (.ref a2), .val (.int mm)] [(.int mm), (.int w_count_a1), (.ref a1)])) (fun t k => XS.iloadN X22.here hx rfl (hb hby d12_38) rfl k) ?_
  refine own_pre (B := T22.setTop (mkF m 40 #[.val (.ref a1), .val (.ref a2), .val (.int mm)] [(.int (w_count_a1 + mm)), (.ref a1)])) (fun t k => XS.iadd X22.here hx rfl (hb hby d12_39) rfl k) ?_
  have c23 := (Exa.keep qE6 K18)
  have K24 : Keep h0 T18.heap [a1, w_value_a1] := (Keep.trans K19 K18 (allS (P := fun x => x ∈ [a1, w_value_a1] ∨ h0.size ≤ x) (own_memo or_vx_6 (List.mem_of_getElem? (i := 1) rfl)) all0))
  obtain ⟨T25, h25, X25, e25, W25, st25⟩ := putF X22 hx hZ hown (host := "") (Or.inl (hw _ (ow 44 rfl))) Via.refl e22 c21 c23 (Or.inl (hw _ (ow 45 rfl))) (hw _ (ow 15 rfl)) (ty := .int) (by decide) rfl rfl (g := (mkF m 40 #[.val (.ref a1), .val (.ref a2), .val (.int mm)] [(.int (w_count_a1 + mm)), (.ref a1)])) rfl rfl (hb hby d12_40)
  have Fw25 := Fld.same W25 c21
  have N25 := Fr.snoc X25 Nh20 g_a1
  obtain ⟨Lh26, Xh26, Nh26⟩ := own_hide X25 N25
  refine own_pre (B := T25.setTop (mkF m 43 #[.val (.ref a1), .val (.ref a2), .val (.int mm)] [])) (fun t k => st25 t k) ?_
  refine own_pre (B := T25.setTop (mkF m 44 #[.val (.ref a1), .val (.ref a2), .val (.int mm)] [(.ref a1)])) (fun t k => XS.aloadN Xh26.here hx rfl (hb hby d12_43) rfl rfl k) ?_
  have K27 : Keep h0 h25 [a1, w_value_a1] := (Keep.wr K24 W25 (Or.inl (List.mem_of_getElem? (i := 0) rfl)))
  have c28 := (Fld.other W25 (Fld.keep qV6 K18 (ninS nv6 nin0)) (Or.inr (slot_ne (Or.inl (hw _ (ow 31 rfl))) (Or.inl (hw _ (ow 45 rfl))) (by decide) (t := (.array .byte)) (t' := .int) (by decide) (by decide))))
  have c29 := (Fld.other W25 (Fld.keep qC6 K18 (ninS nv6 nin0)) (Or.inr (slot_ne (Or.inl (hw _ (ow 33 rfl))) (Or.inl (hw _ (ow 45 rfl))) (by decide) (t := .byte) (t' := .int) (by decide) (by decide))))
  have c30 := (Exa.wr W25 c23)
  have c31 := (Exa.wr W25 (Exa.keep qX6 K18))
  have c32 := (Arv.other q18_0 W25 (Ne.symm nv6))
  obtain ⟨fsr33, hrr33, hrunr33, hendedr33, hWr33, hsamer33⟩ := Xh26.leave (v := some (.ref a1)) (fun h => by rw [Bd.returns] at h; cases h)
  refine ⟨_, _, (retOut Xh26 hx (i := .areturn) Bd.returns rfl (Or.inr (Or.inr (Or.inr (Or.inr ⟨rfl, rfl, rfl⟩)))) (hb hby d12_44) hrr33), hrunr33, hendedr33, _, _, rfl, ?_, ⟨_, rfl⟩, hWr33, hsamer33.mono (by decide) (by decide)⟩
  show Q12 Z a1 a2 w_value_a1 k_w_value_a1 xs NN w_count_a1 cs w_value_a2 k_w_value_a2 ys mm h0 n0 _ T25.heap _
  rw [e25]
  exact ⟨vx_6, kx_6, nx_6, ub0_18, rfl, Nh26, K27, gv6, or_vx_6, nv6, P6, c30, c28, c29, Fw25, c31, c32⟩
theorem pd_10 : parseMethodDescriptor "(Ljava/lang/String;)Ljava/lang/AbstractStringBuilder;" = some ⟨[(.object "java/lang/String")], some (.object "java/lang/AbstractStringBuilder")⟩ := by decide +kernel
theorem d11_0 : decode jdk_67_method_7_code 0 = .ok (.aload_n 0, 1) := by decide +kernel
theorem d11_1 : decode jdk_67_method_7_code 1 = .ok (.aload_n 1, 1) := by decide +kernel
theorem d11_2 : decode jdk_67_method_7_code 2 = .ok (.invokespecial 29, 3) := by decide +kernel
theorem d11_5 : decode jdk_67_method_7_code 5 = .ok (.pop, 1) := by decide +kernel
theorem d11_6 : decode jdk_67_method_7_code 6 = .ok (.aload_n 0, 1) := by decide +kernel
theorem d11_7 : decode jdk_67_method_7_code 7 = .ok (.areturn, 1) := by decide +kernel
theorem pn_11 : plainName "java/lang/StringBuilder" = true := by first | (simp [plainName, overriddenIn]; done) | decide +kernel
theorem ef_11 (m : MethodId) (x0 : Addr) (x1 : Addr) : entryFrame m #[(.ref x0), (.ref x1)] 2 = mkF m 0 #[.val (.ref x0), .val (.ref x1)] [] := by first | (simp [entryFrame, mkF, argsToLocals, Value.category]; done) | rfl
def Q11 (Z : State) (a1 : Addr) (a2 : Addr) (w_value_a1 : Addr) (k_w_value_a1 : ClassId) (xs : List Value) (NN : Int32) (w_count_a1 : Int32) (cs : Int32) (w_value_a2 : Addr) (k_w_value_a2 : ClassId) (ys : List Value) (mm : Int32) (h0 : Heap) (n0 : Nat) (v : Option Value) (h : Heap) (L : List Loc) : Prop := ∃ (vx : Addr) (kx : ClassId) (nx : Int32) (xx : List Value), v = some (.ref a1) ∧ Fr n0 L ∧ Keep h0 h [a1, w_value_a1] ∧ n0 ≤ vx ∧ (vx = w_value_a1 ∨ h0.size ≤ vx) ∧ a1 ≠ vx ∧ own_P nx (w_count_a1 + mm) ∧ Exa Z h a1 "java/lang/StringBuilder" ∧ Fld Z h a1 "java/lang/AbstractStringBuilder" "value" "[B" (.ref vx) ∧ Fld Z h a1 "java/lang/AbstractStringBuilder" "coder" "B" (.int (0 : Int32)) ∧ Fld Z h a1 "java/lang/AbstractStringBuilder" "count" "I" (.int (w_count_a1 + mm)) ∧ Exa Z h vx "[B" ∧ Arv Z h vx kx .byte nx xx (.int (0 : Int32))
set_option maxRecDepth 65536 in
set_option maxHeartbeats 40000000 in
theorem rm11 (l : Launch) (Z : State) (a0 : Array Value) (hw : ∀ d ∈ tables_1, d.before a0 Z = true) (ws : List Jvm.Cond) (a1 : Addr) (a2 : Addr) (w_value_a1 : Addr) (k_w_value_a1 : ClassId) (xs : List Value) (NN : Int32) (w_count_a1 : Int32) (cs : Int32) (w_value_a2 : Addr) (k_w_value_a2 : ClassId) (ys : List Value) (mm : Int32) (h0 : Heap) (n0 : Nat) (Z0 : n0 ≤ h0.size) (E_a1 : Exa Z h0 a1 "java/lang/StringBuilder") (F_value_a1 : Fld Z h0 a1 "java/lang/AbstractStringBuilder" "value" "[B" (.ref w_value_a1)) (F_coder_a1 : Fld Z h0 a1 "java/lang/AbstractStringBuilder" "coder" "B" (.int (0 : Int32))) (V_w_value_a1 : Arv Z h0 w_value_a1 k_w_value_a1 .byte NN xs (.int (0 : Int32))) (E_w_value_a1 : Exa Z h0 w_value_a1 "[B") (F_count_a1 : Fld Z h0 a1 "java/lang/AbstractStringBuilder" "count" "I" (.int w_count_a1)) (ne_a1_w_value_a1 : a1 ≠ w_value_a1) (g_a1 : n0 ≤ a1) (g_w_value_a1 : n0 ≤ w_value_a1) (O0 : Old Z n0 h0) (SCS : Sta Z Z.heap "java/lang/String" "COMPACT_STRINGS" "Z" (.int cs)) (hcs : ¬ cs = (0 : Int32)) (E_a2 : Exa Z h0 a2 "java/lang/String") (F_coder_a2 : Fld Z h0 a2 "java/lang/String" "coder" "B" (.int (0 : Int32))) (F_value_a2 : Fld Z h0 a2 "java/lang/String" "value" "[B" (.ref w_value_a2)) (V_w_value_a2 : Arv Z h0 w_value_a2 k_w_value_a2 .byte mm ys (.int (0 : Int32))) (ne_a2_a1 : a2 ≠ a1) (ne_a2_w_value_a1 : a2 ≠ w_value_a1) (ne_w_value_a2_a1 : w_value_a2 ≠ a1) (ne_w_value_a2_w_value_a1 : w_value_a2 ≠ w_value_a1) (hA : own_A w_count_a1 NN mm) :
    MetFree l (⟨"java/lang/StringBuilder", "append", "(Ljava/lang/String;)Ljava/lang/StringBuilder;"⟩ : MethodName) (head1 (Jvm.Cond.code (⟨"java/lang/StringBuilder", "append", "(Ljava/lang/String;)Ljava/lang/StringBuilder;"⟩ : MethodName) jdk_67_method_7_code 2 (some (.object "java/lang/StringBuilder")) :: ws) ({ frames := 5, cells := 1, slots := 172, locals := 76 } : Room)) (fun a U => a = #[(.ref a1), (.ref a2)] ∧ Z.Warmed39 U.vm ∧ U.heap = h0) (fun _ _ _ _ _ => True) (fun _ U o U' => ∃ v L, o = .returned v ∧ Q11 Z a1 a2 w_value_a1 k_w_value_a1 xs NN w_count_a1 cs w_value_a2 k_w_value_a2 ys mm h0 n0 v U'.heap L ∧ FrameEnd U o U' L ({ frames := 5, cells := 1, slots := 172, locals := 76 } : Room).cells ({ frames := 5, cells := 1, slots := 172, locals := 76 } : Room).slots) := by
  refine MetFree.of_bodySF (plainFor_of_name pn_11) hisR ?_
  intro p e s m args below meth c s₁ Bd hml0 hP hK
  obtain ⟨rfl, hZ, hh⟩ := hP
  have hx := Bd.exec
  have hby := Bd.bytes
  have hml : c.maxLocals = 2 := hml0
  have hown : s.vm.findClass "java/lang/StringBuilder" = some m.cls := findClass_of_methodNamed Bd.named
  have hnm := (name_of_methodNamed Bd.named Bd.method).1
  have X0 : Stand p l e ({ frames := 5, cells := 1, slots := 172, locals := 76 } : Room) s m #[(.ref a1), (.ref a2)] below meth c s₁ [] 0 0 := Stand.of_body Bd
  have e0 : s₁.heap = h0 := by rw [← hh, Bd.state]; rfl
  have N0 := Fr.nil n0
  apply own_in
  refine own_pre (B := s₁.setTop (mkF m 0 #[.val (.ref a1), .val (.ref a2)] [])) (fun t k => castTop (ef_11 m a1 a2) k) ?_
  refine own_pre (B := s₁.setTop (mkF m 1 #[.val (.ref a1), .val (.ref a2)] [(.ref a1)])) (fun t k => XS.aloadN X0.here hx rfl (hb hby d11_0) rfl rfl k) ?_
  refine own_pre (B := s₁.setTop (mkF m 2 #[.val (.ref a1), .val (.ref a2)] [(.ref a2), (.ref a1)])) (fun t k => XS.aloadN X0.here hx rfl (hb hby d11_1) rfl rfl k) ?_
  obtain ⟨_, _, ⟨T3, L3, k3, n3⟩, -, X3, ⟨Lc3, hQ3, l3, y3, z3⟩, st3⟩ := superBack X0 hx hZ (y := (⟨"java/lang/AbstractStringBuilder", "append", "(Ljava/lang/String;)Ljava/lang/AbstractStringBuilder;"⟩ : MethodName)) hown (hw _ (ow 73 rfl)) (own_same (hw _ (ow 74 rfl)) (own_nf (hw _ (ow 54 rfl)) (hw _ (ow 52 rfl)) rfl) (by decide)) (hw _ (ow 74 rfl)) (hw _ (ow 41 rfl)) (by decide) (backOf (W := 0) (rm12 l Z a0 hw [] a1 a2 w_value_a1 k_w_value_a1 xs NN w_count_a1 cs w_value_a2 k_w_value_a2 ys mm h0 n0 Z0 E_a1 F_value_a1 F_coder_a1 V_w_value_a1 E_w_value_a1 F_count_a1 ne_a1_w_value_a1 g_a1 g_w_value_a1 O0 SCS hcs E_a2 F_coder_a2 F_value_a2 V_w_value_a2 ne_a2_a1 ne_a2_w_value_a1 ne_w_value_a2_a1 ne_w_value_a2_w_value_a1 hA) hZ (hw _ (ow 76 rfl)) (hw _ (ow 24 rfl)) (by decide) (by decide)) e0 (Ins.self E_a1) (g := (mkF m 2 #[.val (.ref a1), .val (.ref a2)] [(.ref a2), (.ref a1)])) rfl (by rw [hml]; rfl) (hw _ (ow 76 rfl)) (argsL := [(.ref a2)]) (rest := []) (lenOf pd_10 rfl) rfl (by show 2 * 0 + _ ≤ _; exact Nat.le_of_eq rfl) (hb hby d11_2) (fun _ _ => ⟨rfl, e0, (by decide : 0 + 1 ≤ _), (by decide : 0 + 172 ≤ _)⟩)
  dsimp only [Pt.U, Pt.locs, Pt.cells, Pt.slots] at X3 l3 y3 z3 st3 hQ3
  subst l3 y3 z3
  obtain ⟨vx_3, kx_3, nx_3, xx_3, rfl, N3q, K3, gv3, ov3, nv3, P3, qE3, qV3, qC3, qN3, qX3, qA3⟩ := hQ3
  have N3 := Fr.app N0 N3q
  have K4 : Keep h0 h0 [a1, w_value_a1] := (Keep.refl h0 [a1, w_value_a1])
  have ne5 : a2 ≠ vx_3 := own_neq ov3 ne_a2_w_value_a1 (Exa.lt E_a2)
  have ne6 : w_value_a2 ≠ vx_3 := own_neq ov3 ne_w_value_a2_w_value_a1 (Arv.lt V_w_value_a2)
  have or_vx_3 : vx_3 = w_value_a1 ∨ h0.size ≤ vx_3 := own_orig ov3 (Or.inl rfl) K4.1
  obtain ⟨Lh7, Xh7, Nh7⟩ := own_hide X3 N3
  refine own_pre (B := T3.setTop (mkF m 5 #[.val (.ref a1), .val (.ref a2)] [(.ref a1)])) (fun t k => st3.trans k) ?_
  refine own_pre (B := T3.setTop (mkF m 6 #[.val (.ref a1), .val (.ref a2)] [])) (fun t k => XS.pop Xh7.here hx rfl (hb hby d11_5) rfl rfl k) ?_
  refine own_pre (B := T3.setTop (mkF m 7 #[.val (.ref a1), .val (.ref a2)] [(.ref a1)])) (fun t k => XS.aloadN Xh7.here hx rfl (hb hby d11_6) rfl rfl k) ?_
  have K8 : Keep h0 T3.heap [a1, w_value_a1] := (Keep.trans K4 K3 (allS (P := fun x => x ∈ [a1, w_value_a1] ∨ h0.size ≤ x) (Or.inl (List.mem_of_getElem? (i := 0) rfl)) (allS (P := fun x => x ∈ [a1, w_value_a1] ∨ h0.size ≤ x) (Or.inl (List.mem_of_getElem? (i := 1) rfl)) all0)))
  obtain ⟨fsr9, hrr9, hrunr9, hendedr9, hWr9, hsamer9⟩ := Xh7.leave (v := some (.ref a1)) (fun h => by rw [Bd.returns] at h; cases h)
  refine ⟨_, _, (retOut Xh7 hx (i := .areturn) Bd.returns rfl (Or.inr (Or.inr (Or.inr (Or.inr ⟨rfl, rfl, rfl⟩)))) (hb hby d11_7) hrr9), hrunr9, hendedr9, _, _, rfl, ?_, ⟨_, rfl⟩, hWr9, hsamer9.mono (by decide) (by decide)⟩
  show Q11 Z a1 a2 w_value_a1 k_w_value_a1 xs NN w_count_a1 cs w_value_a2 k_w_value_a2 ys mm h0 n0 _ T3.heap _
  exact ⟨vx_3, kx_3, nx_3, xx_3, rfl, Nh7, K8, gv3, or_vx_3, nv3, P3, qE3, qV3, qC3, qN3, qX3, qA3⟩
theorem own_hi {c N m : Int32} (h : own_A c N m) : m.toInt ≤ (c + m).toInt := by
  have e := own_sum h
  have := h.1; omega
theorem pd_11 : parseMethodDescriptor "()Z" = some ⟨[], some .boolean⟩ := by decide +kernel
theorem d6_0 : decode jdk_68_method_33_code 0 = .ok (.aload_n 0, 1) := by decide +kernel
theorem d6_1 : decode jdk_68_method_33_code 1 = .ok (.getfield 79, 3) := by decide +kernel
theorem d6_4 : decode jdk_68_method_33_code 4 = .ok (.istore_n 3, 1) := by decide +kernel
theorem d6_5 : decode jdk_68_method_33_code 5 = .ok (.iload_n 3, 1) := by decide +kernel
theorem d6_6 : decode jdk_68_method_33_code 6 = .ok (.lload_n 1, 1) := by decide +kernel
theorem d6_7 : decode jdk_68_method_33_code 7 = .ok (.invokestatic 254, 3) := by decide +kernel
theorem d6_10 : decode jdk_68_method_33_code 10 = .ok (.iadd, 1) := by decide +kernel
theorem d6_11 : decode jdk_68_method_33_code 11 = .ok (.istore 4, 2) := by decide +kernel
theorem d6_13 : decode jdk_68_method_33_code 13 = .ok (.aload_n 0, 1) := by decide +kernel
theorem d6_14 : decode jdk_68_method_33_code 14 = .ok (.iload 4, 2) := by decide +kernel
theorem d6_16 : decode jdk_68_method_33_code 16 = .ok (.invokevirtual 100, 3) := by decide +kernel
theorem d6_19 : decode jdk_68_method_33_code 19 = .ok (.aload_n 0, 1) := by decide +kernel
theorem d6_20 : decode jdk_68_method_33_code 20 = .ok (.invokevirtual 83, 3) := by decide +kernel
theorem d6_23 : decode jdk_68_method_33_code 23 = .ok (.ifCond .eq 17, 3) := by decide +kernel
theorem d6_26 : decode jdk_68_method_33_code 26 = .ok (.lload_n 1, 1) := by decide +kernel
theorem d6_27 : decode jdk_68_method_33_code 27 = .ok (.iload 4, 2) := by decide +kernel
theorem d6_29 : decode jdk_68_method_33_code 29 = .ok (.aload_n 0, 1) := by decide +kernel
theorem d6_30 : decode jdk_68_method_33_code 30 = .ok (.getfield 15, 3) := by decide +kernel
theorem d6_33 : decode jdk_68_method_33_code 33 = .ok (.invokestatic 259, 3) := by decide +kernel
theorem d6_36 : decode jdk_68_method_33_code 36 = .ok (.pop, 1) := by decide +kernel
theorem d6_37 : decode jdk_68_method_33_code 37 = .ok (.goto 15, 3) := by decide +kernel
theorem d6_52 : decode jdk_68_method_33_code 52 = .ok (.aload_n 0, 1) := by decide +kernel
theorem d6_53 : decode jdk_68_method_33_code 53 = .ok (.iload 4, 2) := by decide +kernel
theorem d6_55 : decode jdk_68_method_33_code 55 = .ok (.putfield 79, 3) := by decide +kernel
theorem d6_58 : decode jdk_68_method_33_code 58 = .ok (.aload_n 0, 1) := by decide +kernel
theorem d6_59 : decode jdk_68_method_33_code 59 = .ok (.areturn, 1) := by decide +kernel
theorem pn_6 : plainName "java/lang/AbstractStringBuilder" = true := by first | (simp [plainName, overriddenIn]; done) | decide +kernel
theorem ef_6 (m : MethodId) (x0 : Addr) (x1 : Int64) : entryFrame m #[(.ref x0), (.long x1)] 5 = mkF m 0 #[.val (.ref x0), .val (.long x1), .second, .unset, .unset] [] := by first | (simp [entryFrame, mkF, argsToLocals, Value.category]; done) | rfl
def Q6 (Z : State) (a1 : Addr) (q2 : Int64) (w_value_a1 : Addr) (k_w_value_a1 : ClassId) (xs : List Value) (NN : Int32) (w_count_a1 : Int32) (cs : Int32) (h0 : Heap) (n0 : Nat) (v : Option Value) (h : Heap) (L : List Loc) : Prop := ∃ (vx : Addr) (kx : ClassId) (nx : Int32) (xx : List Value), v = some (.ref a1) ∧ Fr n0 L ∧ Keep h0 h [a1, w_value_a1] ∧ n0 ≤ vx ∧ (vx = w_value_a1 ∨ h0.size ≤ vx) ∧ a1 ≠ vx ∧ own_P nx (w_count_a1 + (Jvm.Free.SBG.strSizeOfL q2)) ∧ Exa Z h a1 "java/lang/StringBuilder" ∧ Fld Z h a1 "java/lang/AbstractStringBuilder" "value" "[B" (.ref vx) ∧ Fld Z h a1 "java/lang/AbstractStringBuilder" "coder" "B" (.int (0 : Int32)) ∧ Fld Z h a1 "java/lang/AbstractStringBuilder" "count" "I" (.int (w_count_a1 + (Jvm.Free.SBG.strSizeOfL q2))) ∧ Exa Z h vx "[B" ∧ Arv Z h vx kx .byte nx xx (.int (0 : Int32))
set_option maxRecDepth 65536 in
set_option maxHeartbeats 40000000 in
theorem rm6 (l : Launch) (Z : State) (a0 : Array Value) (hw : ∀ d ∈ tables_1, d.before a0 Z = true) (ws : List Jvm.Cond) (a1 : Addr) (q2 : Int64) (w_value_a1 : Addr) (k_w_value_a1 : ClassId) (xs : List Value) (NN : Int32) (w_count_a1 : Int32) (cs : Int32) (h0 : Heap) (n0 : Nat) (Z0 : n0 ≤ h0.size) (E_a1 : Exa Z h0 a1 "java/lang/StringBuilder") (F_value_a1 : Fld Z h0 a1 "java/lang/AbstractStringBuilder" "value" "[B" (.ref w_value_a1)) (F_coder_a1 : Fld Z h0 a1 "java/lang/AbstractStringBuilder" "coder" "B" (.int (0 : Int32))) (V_w_value_a1 : Arv Z h0 w_value_a1 k_w_value_a1 .byte NN xs (.int (0 : Int32))) (E_w_value_a1 : Exa Z h0 w_value_a1 "[B") (F_count_a1 : Fld Z h0 a1 "java/lang/AbstractStringBuilder" "count" "I" (.int w_count_a1)) (ne_a1_w_value_a1 : a1 ≠ w_value_a1) (g_a1 : n0 ≤ a1) (g_w_value_a1 : n0 ≤ w_value_a1) (O0 : Old Z n0 h0) (SCS : Sta Z Z.heap "java/lang/String" "COMPACT_STRINGS" "Z" (.int cs)) (hcs : ¬ cs = (0 : Int32)) (TB : own_T Z) (hA : own_A w_count_a1 NN (Jvm.Free.SBG.strSizeOfL q2)) :
    MetFree l (⟨"java/lang/AbstractStringBuilder", "append", "(J)Ljava/lang/AbstractStringBuilder;"⟩ : MethodName) (head1 (Jvm.Cond.code (⟨"java/lang/AbstractStringBuilder", "append", "(J)Ljava/lang/AbstractStringBuilder;"⟩ : MethodName) jdk_68_method_33_code 5 (some (.object "java/lang/AbstractStringBuilder")) :: ws) ({ frames := 4, cells := 1, slots := 172, locals := 102 } : Room)) (fun a U => a = #[(.ref a1), (.long q2)] ∧ Z.Warmed39 U.vm ∧ U.heap = h0) (fun _ _ _ _ _ => True) (fun _ U o U' => ∃ v L, o = .returned v ∧ Q6 Z a1 q2 w_value_a1 k_w_value_a1 xs NN w_count_a1 cs h0 n0 v U'.heap L ∧ FrameEnd U o U' L ({ frames := 4, cells := 1, slots := 172, locals := 102 } : Room).cells ({ frames := 4, cells := 1, slots := 172, locals := 102 } : Room).slots) := by
  refine MetFree.of_bodySF (plainFor_of_name pn_6) hisR ?_
  intro p e s m args below meth c s₁ Bd hml0 hP hK
  obtain ⟨rfl, hZ, hh⟩ := hP
  have hx := Bd.exec
  have hby := Bd.bytes
  have hml : c.maxLocals = 5 := hml0
  have hown : s.vm.findClass "java/lang/AbstractStringBuilder" = some m.cls := findClass_of_methodNamed Bd.named
  have hnm := (name_of_methodNamed Bd.named Bd.method).1
  have X0 : Stand p l e ({ frames := 4, cells := 1, slots := 172, locals := 102 } : Room) s m #[(.ref a1), (.long q2)] below meth c s₁ [] 0 0 := Stand.of_body Bd
  have e0 : s₁.heap = h0 := by rw [← hh, Bd.state]; rfl
  have N0 := Fr.nil n0
  apply own_in
  refine own_pre (B := s₁.setTop (mkF m 0 #[.val (.ref a1), .val (.long q2), .second, .unset, .unset] [])) (fun t k => castTop (ef_6 m a1 q2) k) ?_
  refine own_pre (B := s₁.setTop (mkF m 1 #[.val (.ref a1), .val (.long q2), .second, .unset, .unset] [(.ref a1)])) (fun t k => XS.aloadN X0.here hx rfl (hb hby d6_0) rfl rfl k) ?_
  obtain ⟨T3, X3, e3, st3⟩ := getF X0 hx hZ hown (host := "") (Or.inl (hw _ (ow 44 rfl))) Via.refl e0 F_count_a1 (g := (mkF m 1 #[.val (.ref a1), .val (.long q2), .second, .unset, .unset] [(.ref a1)])) rfl rfl (hb hby d6_1)
  refine own_pre (B := T3.setTop (mkF m 4 #[.val (.ref a1), .val (.long q2), .second, .unset, .unset] [(.int w_count_a1)])) (fun t k => st3 t k) ?_
  refine own_pre (B := T3.setTop (mkF m 5 #[.val (.ref a1), .val (.long q2), .second, .val (.int w_count_a1), .unset] [])) (fun t k => XS.istoreN X3.here hx rfl (hb hby d6_4) rfl (l' := #[.val (.ref a1), .val (.long q2), .second, .val (.int w_count_a1), .unset]) rfl k) ?_
  refine own_pre (B := T3.setTop (mkF m 6 #[.val (.ref a1), .val (.long q2), .second, .val (.int w_count_a1), .unset] [(.int w_count_a1)])) (fun t k => XS.iloadN X3.here hx rfl (hb hby d6_5) rfl k) ?_
  refine own_pre (B := T3.setTop (mkF m 7 #[.val (.ref a1), .val (.long q2), .second, .val (.int w_count_a1), .unset] [(.long q2), (.int w_count_a1)])) (fun t k => XS.lloadN X3.here hx rfl (hb hby d6_6) rfl k) ?_
  obtain ⟨T4, X4, e4, st4⟩ := own_ssJ X3 hx hZ hown (hw _ (ow 46 rfl)) (hw _ (ow 47 rfl)) (hw _ (ow 48 rfl)) (hw _ (ow 49 rfl)) (hw _ (ow 50 rfl)) (hw _ (ow 126 rfl)) e3 (g := (mkF m 7 #[.val (.ref a1), .val (.long q2), .second, .val (.int w_count_a1), .unset] [(.long q2), (.int w_count_a1)])) rfl (by rw [hml]; rfl) rfl (hb hby d6_7) (by decide) (W := 1) (by show 2 * 0 + _ ≤ _; exact Nat.le_of_eq rfl) (by decide) (by decide) (by decide)
  refine own_pre (B := T4.setTop (mkF m 10 #[.val (.ref a1), .val (.long q2), .second, .val (.int w_count_a1), .unset] [(.int (Jvm.Free.SBG.strSizeOfL q2)), (.int w_count_a1)])) (fun t k => st4 t k) ?_
  refine own_pre (B := T4.setTop (mkF m 11 #[.val (.ref a1), .val (.long q2), .second, .val (.int w_count_a1), .unset] [(.int (w_count_a1 + (Jvm.Free.SBG.strSizeOfL q2)))])) (fun t k => XS.iadd X4.here hx rfl (hb hby d6_10) rfl k) ?_
  refine own_pre (B := T4.setTop (mkF m 13 #[.val (.ref a1), .val (.long q2), .second, .val (.int w_count_a1), .val (.int (w_count_a1 + (Jvm.Free.SBG.strSizeOfL q2)))] [])) (fun t k => XS.istore X4.here hx rfl (hb hby d6_11) rfl (l' := #[.val (.ref a1), .val (.long q2), .second, .val (.int w_count_a1), .val (.int (w_count_a1 + (Jvm.Free.SBG.strSizeOfL q2)))]) rfl k) ?_
  refine own_pre (B := T4.setTop (mkF m 14 #[.val (.ref a1), .val (.long q2), .second, .val (.int w_count_a1), .val (.int (w_count_a1 + (Jvm.Free.SBG.strSizeOfL q2)))] [(.ref a1)])) (fun t k => XS.aloadN X4.here hx rfl (hb hby d6_13) rfl rfl k) ?_
  refine own_pre (B := T4.setTop (mkF m 16 #[.val (.ref a1), .val (.long q2), .second, .val (.int w_count_a1), .val (.int (w_count_a1 + (Jvm.Free.SBG.strSizeOfL q2)))] [(.int (w_count_a1 + (Jvm.Free.SBG.strSizeOfL q2))), (.ref a1)])) (fun t k => XS.iload X4.here hx rfl (hb hby d6_14) rfl k) ?_
  obtain ⟨cq5, q5, q5'⟩ := (E_a1).cell
  obtain ⟨_, _, ⟨T5, L5, k5, n5⟩, -, X5, ⟨Lc5, hQ5, l5, y5, z5⟩, st5⟩ := X4.privateBack hx (y := (⟨"java/lang/AbstractStringBuilder", "ensureCapacityInternal", "(I)V"⟩ : MethodName)) hown (mvT hZ (hw _ (ow 51 rfl))) (mvT hZ (hw _ (ow 52 rfl))) (own_selq hZ (own_nf (hw _ (ow 54 rfl)) (hw _ (ow 52 rfl)) rfl) (hw _ (ow 53 rfl)) (hw _ (ow 52 rfl)) (by decide)) (Cond.privateMethod_at (mvP hZ (hw _ (ow 53 rfl)) (args := #[]))) (mvT hZ (hw _ (ow 55 rfl))) (by decide) (backOf (W := 0) (rm8 l Z a0 hw [] a1 (w_count_a1 + (Jvm.Free.SBG.strSizeOfL q2)) w_value_a1 k_w_value_a1 xs NN w_count_a1 h0 n0 Z0 E_a1 F_value_a1 F_coder_a1 V_w_value_a1 E_w_value_a1 F_count_a1 ne_a1_w_value_a1 g_a1 g_w_value_a1 (own_AC hA)) hZ (hw _ (ow 55 rfl)) (hw _ (ow 24 rfl)) (by decide) (by decide)) (g := (mkF m 16 #[.val (.ref a1), .val (.long q2), .second, .val (.int w_count_a1), .val (.int (w_count_a1 + (Jvm.Free.SBG.strSizeOfL q2)))] [(.int (w_count_a1 + (Jvm.Free.SBG.strSizeOfL q2))), (.ref a1)])) rfl (by rw [hml]; rfl) (Steps.refl _) (a := a1) (by rw [e4]; exact q5) q5' (argsL := [(.int (w_count_a1 + (Jvm.Free.SBG.strSizeOfL q2)))]) (rest := []) (lenOf pd_8 rfl) rfl (by show 2 * 0 + _ ≤ _; exact Nat.le_of_eq rfl) (hb hby d6_16) (fun _ _ => ⟨rfl, e4, (by decide : 0 + 1 ≤ _), (by decide : 0 + 172 ≤ _)⟩)
  dsimp only [Pt.U, Pt.locs, Pt.cells, Pt.slots] at X5 l5 y5 z5 st5 hQ5
  subst l5 y5 z5
  obtain ⟨vx_5, kx_5, nx_5, xx_5, rfl, N5q, K5, gv5, ov5, nv5, P5, qE5, qV5, qC5, qN5, qX5, qA5⟩ := hQ5
  have N5 := Fr.app N0 N5q
  have K6 : Keep h0 h0 [a1, w_value_a1] := (Keep.refl h0 [a1, w_value_a1])
  have or_vx_5 : vx_5 = w_value_a1 ∨ h0.size ≤ vx_5 := own_orig ov5 (Or.inl rfl) K6.1
  obtain ⟨Lh7, Xh7, Nh7⟩ := own_hide X5 N5
  refine own_pre (B := T5.setTop (mkF m 19 #[.val (.ref a1), .val (.long q2), .second, .val (.int w_count_a1), .val (.int (w_count_a1 + (Jvm.Free.SBG.strSizeOfL q2)))] [])) (fun t k => st5.trans k) ?_
  refine own_pre (B := T5.setTop (mkF m 20 #[.val (.ref a1), .val (.long q2), .second, .val (.int w_count_a1), .val (.int (w_count_a1 + (Jvm.Free.SBG.strSizeOfL q2)))] [(.ref a1)])) (fun t k => XS.aloadN Xh7.here hx rfl (hb hby d6_19) rfl rfl k) ?_
  have O8 := (Old.keep O0 K5 (allS (P := fun x => n0 ≤ x) g_a1 (allS (P := fun x => n0 ≤ x) g_w_value_a1 all0)))
  have sz9 : n0 ≤ T5.heap.size := (Nat.le_trans Z0 K5.1)
  obtain ⟨cq10, kq10, q10a, q10b, q10c⟩ := isOf hZ rfl qE5
  obtain ⟨_, _, ⟨T10, L10, k10, n10⟩, -, X10, ⟨Lc10, hQ10, l10, y10, z10⟩, st10⟩ := Xh7.virtualBack hx (y := (⟨"java/lang/AbstractStringBuilder", "isLatin1", "()Z"⟩ : MethodName)) (z := (⟨"java/lang/AbstractStringBuilder", "isLatin1", "()Z"⟩ : MethodName)) hown (mvT hZ (hw _ (ow 56 rfl))) (mvT hZ (hw _ (ow 57 rfl))) (notFace_of_selects (args := #[]) (mvT hZ (hw _ (ow 59 rfl)))) (mvT hZ (hw _ (ow 59 rfl))) (mvT hZ (hw _ (ow 58 rfl))) (by decide) (backOf (W := 0) (rm9 l Z a0 hw [] a1 cs T5.heap n0 sz9 O8 SCS hcs qC5) hZ (hw _ (ow 60 rfl)) (hw _ (ow 24 rfl)) (by decide) (by decide)) q10a q10c (g := (mkF m 20 #[.val (.ref a1), .val (.long q2), .second, .val (.int w_count_a1), .val (.int (w_count_a1 + (Jvm.Free.SBG.strSizeOfL q2)))] [(.ref a1)])) rfl (by rw [hml]; rfl) (Steps.refl _) (argsL := []) (rest := []) (lenOf pd_11 rfl) rfl (by show 2 * 0 + _ ≤ _; exact Nat.le_of_eq rfl) (hb hby d6_20) (fun _ _ => ⟨rfl, rfl, (by decide : 1 + 0 ≤ _), (by decide : 172 + 0 ≤ _)⟩)
  dsimp only [Pt.U, Pt.locs, Pt.cells, Pt.slots] at X10 l10 y10 z10 st10 hQ10
  subst l10 y10 z10
  obtain ⟨rfl, N10q, e10⟩ := hQ10
  have N10 := Fr.app Nh7 N10q
  obtain ⟨Lh11, Xh11, Nh11⟩ := own_hide X10 N10
  refine own_pre (B := T10.setTop (mkF m 23 #[.val (.ref a1), .val (.long q2), .second, .val (.int w_count_a1), .val (.int (w_count_a1 + (Jvm.Free.SBG.strSizeOfL q2)))] [(.int (1 : Int32))])) (fun t k => st10.trans k) ?_
  refine own_pre (B := T10.setTop (mkF m 26 #[.val (.ref a1), .val (.long q2), .second, .val (.int w_count_a1), .val (.int (w_count_a1 + (Jvm.Free.SBG.strSizeOfL q2)))] [])) (fun t k => XS.ifNo Xh11.here hx rfl (hb hby d6_23) rfl ((if0 _ _).trans (feq (by decide)).1) k) ?_
  refine own_pre (B := T10.setTop (mkF m 27 #[.val (.ref a1), .val (.long q2), .second, .val (.int w_count_a1), .val (.int (w_count_a1 + (Jvm.Free.SBG.strSizeOfL q2)))] [(.long q2)])) (fun t k => XS.lloadN Xh11.here hx rfl (hb hby d6_26) rfl k) ?_
  refine own_pre (B := T10.setTop (mkF m 29 #[.val (.ref a1), .val (.long q2), .second, .val (.int w_count_a1), .val (.int (w_count_a1 + (Jvm.Free.SBG.strSizeOfL q2)))] [(.int (w_count_a1 + (Jvm.Free.SBG.strSizeOfL q2))), (.long q2)])) (fun t k => XS.iload Xh11.here hx rfl (hb hby d6_27) rfl k) ?_
  refine own_pre (B := T10.setTop (mkF m 30 #[.val (.ref a1), .val (.long q2), .second, .val (.int w_count_a1), .val (.int (w_count_a1 + (Jvm.Free.SBG.strSizeOfL q2)))] [(.ref a1), (.int (w_count_a1 + (Jvm.Free.SBG.strSizeOfL q2))), (.long q2)])) (fun t k => XS.aloadN Xh11.here hx rfl (hb hby d6_29) rfl rfl k) ?_
  obtain ⟨T12, X12, e12, st12⟩ := getF Xh11 hx hZ hown (host := "") (Or.inl (hw _ (ow 30 rfl))) Via.refl e10 qV5 (g := (mkF m 30 #[.val (.ref a1), .val (.long q2), .second, .val (.int w_count_a1), .val (.int (w_count_a1 + (Jvm.Free.SBG.strSizeOfL q2)))] [(.ref a1), (.int (w_count_a1 + (Jvm.Free.SBG.strSizeOfL q2))), (.long q2)])) rfl rfl (hb hby d6_30)
  refine own_pre (B := T12.setTop (mkF m 33 #[.val (.ref a1), .val (.long q2), .second, .val (.int w_count_a1), .val (.int (w_count_a1 + (Jvm.Free.SBG.strSizeOfL q2)))] [(.ref vx_5), (.int (w_count_a1 + (Jvm.Free.SBG.strSizeOfL q2))), (.long q2)])) (fun t k => st12 t k) ?_
  have K13 : Keep h0 T5.heap [a1, w_value_a1] := (Keep.trans K6 K5 (allS (P := fun x => x ∈ [a1, w_value_a1] ∨ h0.size ≤ x) (Or.inl (List.mem_of_getElem? (i := 0) rfl)) (allS (P := fun x => x ∈ [a1, w_value_a1] ∨ h0.size ≤ x) (Or.inl (List.mem_of_getElem? (i := 1) rfl)) all0)))
  obtain ⟨T14, h14, L14, xs14, r14, X14, e14, N14, Kc14, V14, st14⟩ := own_gcJ X12 hx hZ hown (hw _ (ow 61 rfl)) (hw _ (ow 62 rfl)) (hw _ (ow 48 rfl)) (hw _ (ow 63 rfl)) (hw _ (ow 65 rfl)) (hw _ (ow 151 rfl)) (hw _ (ow 64 rfl)) (hw _ (ow 150 rfl)) e12 qA5 TB O8 Nh11 gv5 (own_hi hA) P5.2.2 (g := (mkF m 33 #[.val (.ref a1), .val (.long q2), .second, .val (.int w_count_a1), .val (.int (w_count_a1 + (Jvm.Free.SBG.strSizeOfL q2)))] [(.ref vx_5), (.int (w_count_a1 + (Jvm.Free.SBG.strSizeOfL q2))), (.long q2)])) rfl (by rw [hml]; rfl) rfl (hb hby d6_33) (by decide) (W := 0) (by show 2 * 0 + _ ≤ _; exact Nat.le_of_eq rfl) (by decide) (by decide) (by decide)
  refine own_pre (B := T14.setTop (mkF m 36 #[.val (.ref a1), .val (.long q2), .second, .val (.int w_count_a1), .val (.int (w_count_a1 + (Jvm.Free.SBG.strSizeOfL q2)))] [(.int r14)])) (fun t k => st14 t k) ?_
  refine own_pre (B := T14.setTop (mkF m 37 #[.val (.ref a1), .val (.long q2), .second, .val (.int w_count_a1), .val (.int (w_count_a1 + (Jvm.Free.SBG.strSizeOfL q2)))] [])) (fun t k => XS.pop X14.here hx rfl (hb hby d6_36) rfl rfl k) ?_
  refine own_pre (B := T14.setTop (mkF m 52 #[.val (.ref a1), .val (.long q2), .second, .val (.int w_count_a1), .val (.int (w_count_a1 + (Jvm.Free.SBG.strSizeOfL q2)))] [])) (fun t k => XS.goto X14.here hx rfl (pc0 := 37) (pc' := 52) rfl (hb hby d6_37) (by decide) (by decide) k) ?_
  refine own_pre (B := T14.setTop (mkF m 53 #[.val (.ref a1), .val (.long q2), .second, .val (.int w_count_a1), .val (.int (w_count_a1 + (Jvm.Free.SBG.strSizeOfL q2)))] [(.ref a1)])) (fun t k => XS.aloadN X14.here hx rfl (hb hby d6_52) rfl rfl k) ?_
  refine own_pre (B := T14.setTop (mkF m 55 #[.val (.ref a1), .val (.long q2), .second, .val (.int w_count_a1), .val (.int (w_count_a1 + (Jvm.Free.SBG.strSizeOfL q2)))] [(.int (w_count_a1 + (Jvm.Free.SBG.strSizeOfL q2))), (.ref a1)])) (fun t k => XS.iload X14.here hx rfl (hb hby d6_53) rfl k) ?_
  have c15 := (Exa.keep qE5 Kc14)
  have c16 := (Fld.keep qN5 Kc14 (ninS nv5 nin0))
  have K17 : Keep h0 h14 [a1, w_value_a1] := (Keep.trans K13 Kc14 (allS (P := fun x => x ∈ [a1, w_value_a1] ∨ h0.size ≤ x) (own_memo or_vx_5 (List.mem_of_getElem? (i := 1) rfl)) all0))
  obtain ⟨T18, h18, X18, e18, W18, st18⟩ := putF X14 hx hZ hown (host := "") (Or.inl (hw _ (ow 44 rfl))) Via.refl e14 c16 c15 (Or.inl (hw _ (ow 45 rfl))) (hw _ (ow 15 rfl)) (ty := .int) (by decide) rfl rfl (g := (mkF m 55 #[.val (.ref a1), .val (.long q2), .second, .val (.int w_count_a1), .val (.int (w_count_a1 + (Jvm.Free.SBG.strSizeOfL q2)))] [(.int (w_count_a1 + (Jvm.Free.SBG.strSizeOfL q2))), (.ref a1)])) rfl rfl (hb hby d6_55)
  have Fw18 := Fld.same W18 c16
  have N18 := Fr.snoc X18 N14 g_a1
  obtain ⟨Lh19, Xh19, Nh19⟩ := own_hide X18 N18
  refine own_pre (B := T18.setTop (mkF m 58 #[.val (.ref a1), .val (.long q2), .second, .val (.int w_count_a1), .val (.int (w_count_a1 + (Jvm.Free.SBG.strSizeOfL q2)))] [])) (fun t k => st18 t k) ?_
  refine own_pre (B := T18.setTop (mkF m 59 #[.val (.ref a1), .val (.long q2), .second, .val (.int w_count_a1), .val (.int (w_count_a1 + (Jvm.Free.SBG.strSizeOfL q2)))] [(.ref a1)])) (fun t k => XS.aloadN Xh19.here hx rfl (hb hby d6_58) rfl rfl k) ?_
  have K20 : Keep h0 h18 [a1, w_value_a1] := (Keep.wr K17 W18 (Or.inl (List.mem_of_getElem? (i := 0) rfl)))
  have c21 := (Fld.other W18 (Fld.keep qV5 Kc14 (ninS nv5 nin0)) (Or.inr (slot_ne (Or.inl (hw _ (ow 31 rfl))) (Or.inl (hw _ (ow 45 rfl))) (by decide) (t := (.array .byte)) (t' := .int) (by decide) (by decide))))
  have c22 := (Fld.other W18 (Fld.keep qC5 Kc14 (ninS nv5 nin0)) (Or.inr (slot_ne (Or.inl (hw _ (ow 33 rfl))) (Or.inl (hw _ (ow 45 rfl))) (by decide) (t := .byte) (t' := .int) (by decide) (by decide))))
  have c23 := (Exa.wr W18 c15)
  have c24 := (Exa.wr W18 (Exa.keep qX5 Kc14))
  have c25 := (Arv.other V14 W18 (Ne.symm nv5))
  obtain ⟨fsr26, hrr26, hrunr26, hendedr26, hWr26, hsamer26⟩ := Xh19.leave (v := some (.ref a1)) (fun h => by rw [Bd.returns] at h; cases h)
  refine ⟨_, _, (retOut Xh19 hx (i := .areturn) Bd.returns rfl (Or.inr (Or.inr (Or.inr (Or.inr ⟨rfl, rfl, rfl⟩)))) (hb hby d6_59) hrr26), hrunr26, hendedr26, _, _, rfl, ?_, ⟨_, rfl⟩, hWr26, hsamer26.mono (by decide) (by decide)⟩
  show Q6 Z a1 q2 w_value_a1 k_w_value_a1 xs NN w_count_a1 cs h0 n0 _ T18.heap _
  rw [e18]
  exact ⟨vx_5, kx_5, nx_5, xs14, rfl, Nh19, K20, gv5, or_vx_5, nv5, P5, c23, c21, c22, Fw18, c24, c25⟩
theorem pd_12 : parseMethodDescriptor "(J)Ljava/lang/AbstractStringBuilder;" = some ⟨[.long], some (.object "java/lang/AbstractStringBuilder")⟩ := by decide +kernel
theorem d5_0 : decode jdk_67_method_16_code 0 = .ok (.aload_n 0, 1) := by decide +kernel
theorem d5_1 : decode jdk_67_method_16_code 1 = .ok (.lload_n 1, 1) := by decide +kernel
theorem d5_2 : decode jdk_67_method_16_code 2 = .ok (.invokespecial 56, 3) := by decide +kernel
theorem d5_5 : decode jdk_67_method_16_code 5 = .ok (.pop, 1) := by decide +kernel
theorem d5_6 : decode jdk_67_method_16_code 6 = .ok (.aload_n 0, 1) := by decide +kernel
theorem d5_7 : decode jdk_67_method_16_code 7 = .ok (.areturn, 1) := by decide +kernel
theorem pn_5 : plainName "java/lang/StringBuilder" = true := by first | (simp [plainName, overriddenIn]; done) | decide +kernel
theorem ef_5 (m : MethodId) (x0 : Addr) (x1 : Int64) : entryFrame m #[(.ref x0), (.long x1)] 3 = mkF m 0 #[.val (.ref x0), .val (.long x1), .second] [] := by first | (simp [entryFrame, mkF, argsToLocals, Value.category]; done) | rfl
def Q5 (Z : State) (a1 : Addr) (q2 : Int64) (w_value_a1 : Addr) (k_w_value_a1 : ClassId) (xs : List Value) (NN : Int32) (w_count_a1 : Int32) (cs : Int32) (h0 : Heap) (n0 : Nat) (v : Option Value) (h : Heap) (L : List Loc) : Prop := ∃ (vx : Addr) (kx : ClassId) (nx : Int32) (xx : List Value), v = some (.ref a1) ∧ Fr n0 L ∧ Keep h0 h [a1, w_value_a1] ∧ n0 ≤ vx ∧ (vx = w_value_a1 ∨ h0.size ≤ vx) ∧ a1 ≠ vx ∧ own_P nx (w_count_a1 + (Jvm.Free.SBG.strSizeOfL q2)) ∧ Exa Z h a1 "java/lang/StringBuilder" ∧ Fld Z h a1 "java/lang/AbstractStringBuilder" "value" "[B" (.ref vx) ∧ Fld Z h a1 "java/lang/AbstractStringBuilder" "coder" "B" (.int (0 : Int32)) ∧ Fld Z h a1 "java/lang/AbstractStringBuilder" "count" "I" (.int (w_count_a1 + (Jvm.Free.SBG.strSizeOfL q2))) ∧ Exa Z h vx "[B" ∧ Arv Z h vx kx .byte nx xx (.int (0 : Int32))
set_option maxRecDepth 65536 in
set_option maxHeartbeats 40000000 in
theorem rm5 (l : Launch) (Z : State) (a0 : Array Value) (hw : ∀ d ∈ tables_1, d.before a0 Z = true) (ws : List Jvm.Cond) (a1 : Addr) (q2 : Int64) (w_value_a1 : Addr) (k_w_value_a1 : ClassId) (xs : List Value) (NN : Int32) (w_count_a1 : Int32) (cs : Int32) (h0 : Heap) (n0 : Nat) (Z0 : n0 ≤ h0.size) (E_a1 : Exa Z h0 a1 "java/lang/StringBuilder") (F_value_a1 : Fld Z h0 a1 "java/lang/AbstractStringBuilder" "value" "[B" (.ref w_value_a1)) (F_coder_a1 : Fld Z h0 a1 "java/lang/AbstractStringBuilder" "coder" "B" (.int (0 : Int32))) (V_w_value_a1 : Arv Z h0 w_value_a1 k_w_value_a1 .byte NN xs (.int (0 : Int32))) (E_w_value_a1 : Exa Z h0 w_value_a1 "[B") (F_count_a1 : Fld Z h0 a1 "java/lang/AbstractStringBuilder" "count" "I" (.int w_count_a1)) (ne_a1_w_value_a1 : a1 ≠ w_value_a1) (g_a1 : n0 ≤ a1) (g_w_value_a1 : n0 ≤ w_value_a1) (O0 : Old Z n0 h0) (SCS : Sta Z Z.heap "java/lang/String" "COMPACT_STRINGS" "Z" (.int cs)) (hcs : ¬ cs = (0 : Int32)) (TB : own_T Z) (hA : own_A w_count_a1 NN (Jvm.Free.SBG.strSizeOfL q2)) :
    MetFree l (⟨"java/lang/StringBuilder", "append", "(J)Ljava/lang/StringBuilder;"⟩ : MethodName) (head1 (Jvm.Cond.code (⟨"java/lang/StringBuilder", "append", "(J)Ljava/lang/StringBuilder;"⟩ : MethodName) jdk_67_method_16_code 3 (some (.object "java/lang/StringBuilder")) :: ws) ({ frames := 5, cells := 1, slots := 172, locals := 118 } : Room)) (fun a U => a = #[(.ref a1), (.long q2)] ∧ Z.Warmed39 U.vm ∧ U.heap = h0) (fun _ _ _ _ _ => True) (fun _ U o U' => ∃ v L, o = .returned v ∧ Q5 Z a1 q2 w_value_a1 k_w_value_a1 xs NN w_count_a1 cs h0 n0 v U'.heap L ∧ FrameEnd U o U' L ({ frames := 5, cells := 1, slots := 172, locals := 118 } : Room).cells ({ frames := 5, cells := 1, slots := 172, locals := 118 } : Room).slots) := by
  refine MetFree.of_bodySF (plainFor_of_name pn_5) hisR ?_
  intro p e s m args below meth c s₁ Bd hml0 hP hK
  obtain ⟨rfl, hZ, hh⟩ := hP
  have hx := Bd.exec
  have hby := Bd.bytes
  have hml : c.maxLocals = 3 := hml0
  have hown : s.vm.findClass "java/lang/StringBuilder" = some m.cls := findClass_of_methodNamed Bd.named
  have hnm := (name_of_methodNamed Bd.named Bd.method).1
  have X0 : Stand p l e ({ frames := 5, cells := 1, slots := 172, locals := 118 } : Room) s m #[(.ref a1), (.long q2)] below meth c s₁ [] 0 0 := Stand.of_body Bd
  have e0 : s₁.heap = h0 := by rw [← hh, Bd.state]; rfl
  have N0 := Fr.nil n0
  apply own_in
  refine own_pre (B := s₁.setTop (mkF m 0 #[.val (.ref a1), .val (.long q2), .second] [])) (fun t k => castTop (ef_5 m a1 q2) k) ?_
  refine own_pre (B := s₁.setTop (mkF m 1 #[.val (.ref a1), .val (.long q2), .second] [(.ref a1)])) (fun t k => XS.aloadN X0.here hx rfl (hb hby d5_0) rfl rfl k) ?_
  refine own_pre (B := s₁.setTop (mkF m 2 #[.val (.ref a1), .val (.long q2), .second] [(.long q2), (.ref a1)])) (fun t k => XS.lloadN X0.here hx rfl (hb hby d5_1) rfl k) ?_
  obtain ⟨_, _, ⟨T3, L3, k3, n3⟩, -, X3, ⟨Lc3, hQ3, l3, y3, z3⟩, st3⟩ := superBack X0 hx hZ (y := (⟨"java/lang/AbstractStringBuilder", "append", "(J)Ljava/lang/AbstractStringBuilder;"⟩ : MethodName)) hown (hw _ (ow 39 rfl)) (own_same (hw _ (ow 40 rfl)) (own_nf (hw _ (ow 54 rfl)) (hw _ (ow 52 rfl)) rfl) (by decide)) (hw _ (ow 40 rfl)) (hw _ (ow 41 rfl)) (by decide) (backOf (W := 0) (rm6 l Z a0 hw [] a1 q2 w_value_a1 k_w_value_a1 xs NN w_count_a1 cs h0 n0 Z0 E_a1 F_value_a1 F_coder_a1 V_w_value_a1 E_w_value_a1 F_count_a1 ne_a1_w_value_a1 g_a1 g_w_value_a1 O0 SCS hcs TB hA) hZ (hw _ (ow 43 rfl)) (hw _ (ow 24 rfl)) (by decide) (by decide)) e0 (Ins.self E_a1) (g := (mkF m 2 #[.val (.ref a1), .val (.long q2), .second] [(.long q2), (.ref a1)])) rfl (by rw [hml]; rfl) (hw _ (ow 43 rfl)) (argsL := [(.long q2)]) (rest := []) (lenOf pd_12 rfl) rfl (by show 2 * 0 + _ ≤ _; exact Nat.le_of_eq rfl) (hb hby d5_2) (fun _ _ => ⟨rfl, e0, (by decide : 0 + 1 ≤ _), (by decide : 0 + 172 ≤ _)⟩)
  dsimp only [Pt.U, Pt.locs, Pt.cells, Pt.slots] at X3 l3 y3 z3 st3 hQ3
  subst l3 y3 z3
  obtain ⟨vx_3, kx_3, nx_3, xx_3, rfl, N3q, K3, gv3, ov3, nv3, P3, qE3, qV3, qC3, qN3, qX3, qA3⟩ := hQ3
  have N3 := Fr.app N0 N3q
  have K4 : Keep h0 h0 [a1, w_value_a1] := (Keep.refl h0 [a1, w_value_a1])
  have or_vx_3 : vx_3 = w_value_a1 ∨ h0.size ≤ vx_3 := own_orig ov3 (Or.inl rfl) K4.1
  obtain ⟨Lh5, Xh5, Nh5⟩ := own_hide X3 N3
  refine own_pre (B := T3.setTop (mkF m 5 #[.val (.ref a1), .val (.long q2), .second] [(.ref a1)])) (fun t k => st3.trans k) ?_
  refine own_pre (B := T3.setTop (mkF m 6 #[.val (.ref a1), .val (.long q2), .second] [])) (fun t k => XS.pop Xh5.here hx rfl (hb hby d5_5) rfl rfl k) ?_
  refine own_pre (B := T3.setTop (mkF m 7 #[.val (.ref a1), .val (.long q2), .second] [(.ref a1)])) (fun t k => XS.aloadN Xh5.here hx rfl (hb hby d5_6) rfl rfl k) ?_
  have K6 : Keep h0 T3.heap [a1, w_value_a1] := (Keep.trans K4 K3 (allS (P := fun x => x ∈ [a1, w_value_a1] ∨ h0.size ≤ x) (Or.inl (List.mem_of_getElem? (i := 0) rfl)) (allS (P := fun x => x ∈ [a1, w_value_a1] ∨ h0.size ≤ x) (Or.inl (List.mem_of_getElem? (i := 1) rfl)) all0)))
  obtain ⟨fsr7, hrr7, hrunr7, hendedr7, hWr7, hsamer7⟩ := Xh5.leave (v := some (.ref a1)) (fun h => by rw [Bd.returns] at h; cases h)
  refine ⟨_, _, (retOut Xh5 hx (i := .areturn) Bd.returns rfl (Or.inr (Or.inr (Or.inr (Or.inr ⟨rfl, rfl, rfl⟩)))) (hb hby d5_7) hrr7), hrunr7, hendedr7, _, _, rfl, ?_, ⟨_, rfl⟩, hWr7, hsamer7.mono (by decide) (by decide)⟩
  show Q5 Z a1 q2 w_value_a1 k_w_value_a1 xs NN w_count_a1 cs h0 n0 _ T3.heap _
  exact ⟨vx_3, kx_3, nx_3, xx_3, rfl, Nh5, K6, gv3, or_vx_3, nv3, P3, qE3, qV3, qC3, qN3, qX3, qA3⟩
theorem d19_0 : decode jdk_68_method_32_code 0 = .ok (.aload_n 0, 1) := by decide +kernel
theorem d19_1 : decode jdk_68_method_32_code 1 = .ok (.getfield 79, 3) := by decide +kernel
theorem d19_4 : decode jdk_68_method_32_code 4 = .ok (.istore_n 2, 1) := by decide +kernel
theorem d19_5 : decode jdk_68_method_32_code 5 = .ok (.iload_n 2, 1) := by decide +kernel
theorem d19_6 : decode jdk_68_method_32_code 6 = .ok (.iload_n 1, 1) := by decide +kernel
theorem d19_7 : decode jdk_68_method_32_code 7 = .ok (.invokestatic 245, 3) := by decide +kernel
theorem d19_10 : decode jdk_68_method_32_code 10 = .ok (.iadd, 1) := by decide +kernel
theorem d19_11 : decode jdk_68_method_32_code 11 = .ok (.istore_n 3, 1) := by decide +kernel
theorem d19_12 : decode jdk_68_method_32_code 12 = .ok (.aload_n 0, 1) := by decide +kernel
theorem d19_13 : decode jdk_68_method_32_code 13 = .ok (.iload_n 3, 1) := by decide +kernel
theorem d19_14 : decode jdk_68_method_32_code 14 = .ok (.invokevirtual 100, 3) := by decide +kernel
theorem d19_17 : decode jdk_68_method_32_code 17 = .ok (.aload_n 0, 1) := by decide +kernel
theorem d19_18 : decode jdk_68_method_32_code 18 = .ok (.invokevirtual 83, 3) := by decide +kernel
theorem d19_21 : decode jdk_68_method_32_code 21 = .ok (.ifCond .eq 16, 3) := by decide +kernel
theorem d19_24 : decode jdk_68_method_32_code 24 = .ok (.iload_n 1, 1) := by decide +kernel
theorem d19_25 : decode jdk_68_method_32_code 25 = .ok (.iload_n 3, 1) := by decide +kernel
theorem d19_26 : decode jdk_68_method_32_code 26 = .ok (.aload_n 0, 1) := by decide +kernel
theorem d19_27 : decode jdk_68_method_32_code 27 = .ok (.getfield 15, 3) := by decide +kernel
theorem d19_30 : decode jdk_68_method_32_code 30 = .ok (.invokestatic 248, 3) := by decide +kernel
theorem d19_33 : decode jdk_68_method_32_code 33 = .ok (.pop, 1) := by decide +kernel
theorem d19_34 : decode jdk_68_method_32_code 34 = .ok (.goto 14, 3) := by decide +kernel
theorem d19_48 : decode jdk_68_method_32_code 48 = .ok (.aload_n 0, 1) := by decide +kernel
theorem d19_49 : decode jdk_68_method_32_code 49 = .ok (.iload_n 3, 1) := by decide +kernel
theorem d19_50 : decode jdk_68_method_32_code 50 = .ok (.putfield 79, 3) := by decide +kernel
theorem d19_53 : decode jdk_68_method_32_code 53 = .ok (.aload_n 0, 1) := by decide +kernel
theorem d19_54 : decode jdk_68_method_32_code 54 = .ok (.areturn, 1) := by decide +kernel
theorem pn_19 : plainName "java/lang/AbstractStringBuilder" = true := by first | (simp [plainName, overriddenIn]; done) | decide +kernel
theorem ef_19 (m : MethodId) (x0 : Addr) (x1 : Int32) : entryFrame m #[(.ref x0), (.int x1)] 4 = mkF m 0 #[.val (.ref x0), .val (.int x1), .unset, .unset] [] := by first | (simp [entryFrame, mkF, argsToLocals, Value.category]; done) | rfl
def Q19 (Z : State) (a1 : Addr) (p2 : Int32) (w_value_a1 : Addr) (k_w_value_a1 : ClassId) (xs : List Value) (NN : Int32) (w_count_a1 : Int32) (cs : Int32) (h0 : Heap) (n0 : Nat) (v : Option Value) (h : Heap) (L : List Loc) : Prop := ∃ (vx : Addr) (kx : ClassId) (nx : Int32) (xx : List Value), v = some (.ref a1) ∧ Fr n0 L ∧ Keep h0 h [a1, w_value_a1] ∧ n0 ≤ vx ∧ (vx = w_value_a1 ∨ h0.size ≤ vx) ∧ a1 ≠ vx ∧ own_P nx (w_count_a1 + (Jvm.Free.SBG.strSizeOf p2)) ∧ Exa Z h a1 "java/lang/StringBuilder" ∧ Fld Z h a1 "java/lang/AbstractStringBuilder" "value" "[B" (.ref vx) ∧ Fld Z h a1 "java/lang/AbstractStringBuilder" "coder" "B" (.int (0 : Int32)) ∧ Fld Z h a1 "java/lang/AbstractStringBuilder" "count" "I" (.int (w_count_a1 + (Jvm.Free.SBG.strSizeOf p2))) ∧ Exa Z h vx "[B" ∧ Arv Z h vx kx .byte nx xx (.int (0 : Int32))
set_option maxRecDepth 65536 in
set_option maxHeartbeats 40000000 in
theorem rm19 (l : Launch) (Z : State) (a0 : Array Value) (hw : ∀ d ∈ tables_1, d.before a0 Z = true) (ws : List Jvm.Cond) (a1 : Addr) (p2 : Int32) (w_value_a1 : Addr) (k_w_value_a1 : ClassId) (xs : List Value) (NN : Int32) (w_count_a1 : Int32) (cs : Int32) (h0 : Heap) (n0 : Nat) (Z0 : n0 ≤ h0.size) (E_a1 : Exa Z h0 a1 "java/lang/StringBuilder") (F_value_a1 : Fld Z h0 a1 "java/lang/AbstractStringBuilder" "value" "[B" (.ref w_value_a1)) (F_coder_a1 : Fld Z h0 a1 "java/lang/AbstractStringBuilder" "coder" "B" (.int (0 : Int32))) (V_w_value_a1 : Arv Z h0 w_value_a1 k_w_value_a1 .byte NN xs (.int (0 : Int32))) (E_w_value_a1 : Exa Z h0 w_value_a1 "[B") (F_count_a1 : Fld Z h0 a1 "java/lang/AbstractStringBuilder" "count" "I" (.int w_count_a1)) (ne_a1_w_value_a1 : a1 ≠ w_value_a1) (g_a1 : n0 ≤ a1) (g_w_value_a1 : n0 ≤ w_value_a1) (O0 : Old Z n0 h0) (SCS : Sta Z Z.heap "java/lang/String" "COMPACT_STRINGS" "Z" (.int cs)) (hcs : ¬ cs = (0 : Int32)) (TB : own_T Z) (hA : own_A w_count_a1 NN (Jvm.Free.SBG.strSizeOf p2)) :
    MetFree l (⟨"java/lang/AbstractStringBuilder", "append", "(I)Ljava/lang/AbstractStringBuilder;"⟩ : MethodName) (head1 (Jvm.Cond.code (⟨"java/lang/AbstractStringBuilder", "append", "(I)Ljava/lang/AbstractStringBuilder;"⟩ : MethodName) jdk_68_method_32_code 4 (some (.object "java/lang/AbstractStringBuilder")) :: ws) ({ frames := 4, cells := 1, slots := 172, locals := 78 } : Room)) (fun a U => a = #[(.ref a1), (.int p2)] ∧ Z.Warmed39 U.vm ∧ U.heap = h0) (fun _ _ _ _ _ => True) (fun _ U o U' => ∃ v L, o = .returned v ∧ Q19 Z a1 p2 w_value_a1 k_w_value_a1 xs NN w_count_a1 cs h0 n0 v U'.heap L ∧ FrameEnd U o U' L ({ frames := 4, cells := 1, slots := 172, locals := 78 } : Room).cells ({ frames := 4, cells := 1, slots := 172, locals := 78 } : Room).slots) := by
  refine MetFree.of_bodySF (plainFor_of_name pn_19) hisR ?_
  intro p e s m args below meth c s₁ Bd hml0 hP hK
  obtain ⟨rfl, hZ, hh⟩ := hP
  have hx := Bd.exec
  have hby := Bd.bytes
  have hml : c.maxLocals = 4 := hml0
  have hown : s.vm.findClass "java/lang/AbstractStringBuilder" = some m.cls := findClass_of_methodNamed Bd.named
  have hnm := (name_of_methodNamed Bd.named Bd.method).1
  have X0 : Stand p l e ({ frames := 4, cells := 1, slots := 172, locals := 78 } : Room) s m #[(.ref a1), (.int p2)] below meth c s₁ [] 0 0 := Stand.of_body Bd
  have e0 : s₁.heap = h0 := by rw [← hh, Bd.state]; rfl
  have N0 := Fr.nil n0
  apply own_in
  refine own_pre (B := s₁.setTop (mkF m 0 #[.val (.ref a1), .val (.int p2), .unset, .unset] [])) (fun t k => castTop (ef_19 m a1 p2) k) ?_
  refine own_pre (B := s₁.setTop (mkF m 1 #[.val (.ref a1), .val (.int p2), .unset, .unset] [(.ref a1)])) (fun t k => XS.aloadN X0.here hx rfl (hb hby d19_0) rfl rfl k) ?_
  obtain ⟨T3, X3, e3, st3⟩ := getF X0 hx hZ hown (host := "") (Or.inl (hw _ (ow 44 rfl))) Via.refl e0 F_count_a1 (g := (mkF m 1 #[.val (.ref a1), .val (.int p2), .unset, .unset] [(.ref a1)])) rfl rfl (hb hby d19_1)
  refine own_pre (B := T3.setTop (mkF m 4 #[.val (.ref a1), .val (.int p2), .unset, .unset] [(.int w_count_a1)])) (fun t k => st3 t k) ?_
  refine own_pre (B := T3.setTop (mkF m 5 #[.val (.ref a1), .val (.int p2), .val (.int w_count_a1), .unset] [])) (fun t k => XS.istoreN X3.here hx rfl (hb hby d19_4) rfl (l' := #[.val (.ref a1), .val (.int p2), .val (.int w_count_a1), .unset]) rfl k) ?_
  refine own_pre (B := T3.setTop (mkF m 6 #[.val (.ref a1), .val (.int p2), .val (.int w_count_a1), .unset] [(.int w_count_a1)])) (fun t k => XS.iloadN X3.here hx rfl (hb hby d19_5) rfl k) ?_
  refine own_pre (B := T3.setTop (mkF m 7 #[.val (.ref a1), .val (.int p2), .val (.int w_count_a1), .unset] [(.int p2), (.int w_count_a1)])) (fun t k => XS.iloadN X3.here hx rfl (hb hby d19_6) rfl k) ?_
  obtain ⟨T4, X4, e4, st4⟩ := own_ssI X3 hx hZ hown (hw _ (ow 119 rfl)) (hw _ (ow 120 rfl)) (hw _ (ow 66 rfl)) (hw _ (ow 121 rfl)) e3 (g := (mkF m 7 #[.val (.ref a1), .val (.int p2), .val (.int w_count_a1), .unset] [(.int p2), (.int w_count_a1)])) rfl (by rw [hml]; rfl) rfl (hb hby d19_7) (by decide) (W := 1) (by show 2 * 0 + _ ≤ _; exact Nat.le_of_eq rfl) (by decide) (by decide) (by decide)
  refine own_pre (B := T4.setTop (mkF m 10 #[.val (.ref a1), .val (.int p2), .val (.int w_count_a1), .unset] [(.int (Jvm.Free.SBG.strSizeOf p2)), (.int w_count_a1)])) (fun t k => st4 t k) ?_
  refine own_pre (B := T4.setTop (mkF m 11 #[.val (.ref a1), .val (.int p2), .val (.int w_count_a1), .unset] [(.int (w_count_a1 + (Jvm.Free.SBG.strSizeOf p2)))])) (fun t k => XS.iadd X4.here hx rfl (hb hby d19_10) rfl k) ?_
  refine own_pre (B := T4.setTop (mkF m 12 #[.val (.ref a1), .val (.int p2), .val (.int w_count_a1), .val (.int (w_count_a1 + (Jvm.Free.SBG.strSizeOf p2)))] [])) (fun t k => XS.istoreN X4.here hx rfl (hb hby d19_11) rfl (l' := #[.val (.ref a1), .val (.int p2), .val (.int w_count_a1), .val (.int (w_count_a1 + (Jvm.Free.SBG.strSizeOf p2)))]) rfl k) ?_
  refine own_pre (B := T4.setTop (mkF m 13 #[.val (.ref a1), .val (.int p2), .val (.int w_count_a1), .val (.int (w_count_a1 + (Jvm.Free.SBG.strSizeOf p2)))] [(.ref a1)])) (fun t k => XS.aloadN X4.here hx rfl (hb hby d19_12) rfl rfl k) ?_
  refine own_pre (B := T4.setTop (mkF m 14 #[.val (.ref a1), .val (.int p2), .val (.int w_count_a1), .val (.int (w_count_a1 + (Jvm.Free.SBG.strSizeOf p2)))] [(.int (w_count_a1 + (Jvm.Free.SBG.strSizeOf p2))), (.ref a1)])) (fun t k => XS.iloadN X4.here hx rfl (hb hby d19_13) rfl k) ?_
  obtain ⟨cq5, q5, q5'⟩ := (E_a1).cell
  obtain ⟨_, _, ⟨T5, L5, k5, n5⟩, -, X5, ⟨Lc5, hQ5, l5, y5, z5⟩, st5⟩ := X4.privateBack hx (y := (⟨"java/lang/AbstractStringBuilder", "ensureCapacityInternal", "(I)V"⟩ : MethodName)) hown (mvT hZ (hw _ (ow 51 rfl))) (mvT hZ (hw _ (ow 52 rfl))) (own_selq hZ (own_nf (hw _ (ow 54 rfl)) (hw _ (ow 52 rfl)) rfl) (hw _ (ow 53 rfl)) (hw _ (ow 52 rfl)) (by decide)) (Cond.privateMethod_at (mvP hZ (hw _ (ow 53 rfl)) (args := #[]))) (mvT hZ (hw _ (ow 55 rfl))) (by decide) (backOf (W := 0) (rm8 l Z a0 hw [] a1 (w_count_a1 + (Jvm.Free.SBG.strSizeOf p2)) w_value_a1 k_w_value_a1 xs NN w_count_a1 h0 n0 Z0 E_a1 F_value_a1 F_coder_a1 V_w_value_a1 E_w_value_a1 F_count_a1 ne_a1_w_value_a1 g_a1 g_w_value_a1 (own_AC hA)) hZ (hw _ (ow 55 rfl)) (hw _ (ow 24 rfl)) (by decide) (by decide)) (g := (mkF m 14 #[.val (.ref a1), .val (.int p2), .val (.int w_count_a1), .val (.int (w_count_a1 + (Jvm.Free.SBG.strSizeOf p2)))] [(.int (w_count_a1 + (Jvm.Free.SBG.strSizeOf p2))), (.ref a1)])) rfl (by rw [hml]; rfl) (Steps.refl _) (a := a1) (by rw [e4]; exact q5) q5' (argsL := [(.int (w_count_a1 + (Jvm.Free.SBG.strSizeOf p2)))]) (rest := []) (lenOf pd_8 rfl) rfl (by show 2 * 0 + _ ≤ _; exact Nat.le_of_eq rfl) (hb hby d19_14) (fun _ _ => ⟨rfl, e4, (by decide : 0 + 1 ≤ _), (by decide : 0 + 172 ≤ _)⟩)
  dsimp only [Pt.U, Pt.locs, Pt.cells, Pt.slots] at X5 l5 y5 z5 st5 hQ5
  subst l5 y5 z5
  obtain ⟨vx_5, kx_5, nx_5, xx_5, rfl, N5q, K5, gv5, ov5, nv5, P5, qE5, qV5, qC5, qN5, qX5, qA5⟩ := hQ5
  have N5 := Fr.app N0 N5q
  have K6 : Keep h0 h0 [a1, w_value_a1] := (Keep.refl h0 [a1, w_value_a1])
  have or_vx_5 : vx_5 = w_value_a1 ∨ h0.size ≤ vx_5 := own_orig ov5 (Or.inl rfl) K6.1
  obtain ⟨Lh7, Xh7, Nh7⟩ := own_hide X5 N5
  refine own_pre (B := T5.setTop (mkF m 17 #[.val (.ref a1), .val (.int p2), .val (.int w_count_a1), .val (.int (w_count_a1 + (Jvm.Free.SBG.strSizeOf p2)))] [])) (fun t k => st5.trans k) ?_
  refine own_pre (B := T5.setTop (mkF m 18 #[.val (.ref a1), .val (.int p2), .val (.int w_count_a1), .val (.int (w_count_a1 + (Jvm.Free.SBG.strSizeOf p2)))] [(.ref a1)])) (fun t k => XS.aloadN Xh7.here hx rfl (hb hby d19_17) rfl rfl k) ?_
  have O8 := (Old.keep O0 K5 (allS (P := fun x => n0 ≤ x) g_a1 (allS (P := fun x => n0 ≤ x) g_w_value_a1 all0)))
  have sz9 : n0 ≤ T5.heap.size := (Nat.le_trans Z0 K5.1)
  obtain ⟨cq10, kq10, q10a, q10b, q10c⟩ := isOf hZ rfl qE5
  obtain ⟨_, _, ⟨T10, L10, k10, n10⟩, -, X10, ⟨Lc10, hQ10, l10, y10, z10⟩, st10⟩ := Xh7.virtualBack hx (y := (⟨"java/lang/AbstractStringBuilder", "isLatin1", "()Z"⟩ : MethodName)) (z := (⟨"java/lang/AbstractStringBuilder", "isLatin1", "()Z"⟩ : MethodName)) hown (mvT hZ (hw _ (ow 56 rfl))) (mvT hZ (hw _ (ow 57 rfl))) (notFace_of_selects (args := #[]) (mvT hZ (hw _ (ow 59 rfl)))) (mvT hZ (hw _ (ow 59 rfl))) (mvT hZ (hw _ (ow 58 rfl))) (by decide) (backOf (W := 0) (rm9 l Z a0 hw [] a1 cs T5.heap n0 sz9 O8 SCS hcs qC5) hZ (hw _ (ow 60 rfl)) (hw _ (ow 24 rfl)) (by decide) (by decide)) q10a q10c (g := (mkF m 18 #[.val (.ref a1), .val (.int p2), .val (.int w_count_a1), .val (.int (w_count_a1 + (Jvm.Free.SBG.strSizeOf p2)))] [(.ref a1)])) rfl (by rw [hml]; rfl) (Steps.refl _) (argsL := []) (rest := []) (lenOf pd_11 rfl) rfl (by show 2 * 0 + _ ≤ _; exact Nat.le_of_eq rfl) (hb hby d19_18) (fun _ _ => ⟨rfl, rfl, (by decide : 1 + 0 ≤ _), (by decide : 172 + 0 ≤ _)⟩)
  dsimp only [Pt.U, Pt.locs, Pt.cells, Pt.slots] at X10 l10 y10 z10 st10 hQ10
  subst l10 y10 z10
  obtain ⟨rfl, N10q, e10⟩ := hQ10
  have N10 := Fr.app Nh7 N10q
  obtain ⟨Lh11, Xh11, Nh11⟩ := own_hide X10 N10
  refine own_pre (B := T10.setTop (mkF m 21 #[.val (.ref a1), .val (.int p2), .val (.int w_count_a1), .val (.int (w_count_a1 + (Jvm.Free.SBG.strSizeOf p2)))] [(.int (1 : Int32))])) (fun t k => st10.trans k) ?_
  refine own_pre (B := T10.setTop (mkF m 24 #[.val (.ref a1), .val (.int p2), .val (.int w_count_a1), .val (.int (w_count_a1 + (Jvm.Free.SBG.strSizeOf p2)))] [])) (fun t k => XS.ifNo Xh11.here hx rfl (hb hby d19_21) rfl ((if0 _ _).trans (feq (by decide)).1) k) ?_
  refine own_pre (B := T10.setTop (mkF m 25 #[.val (.ref a1), .val (.int p2), .val (.int w_count_a1), .val (.int (w_count_a1 + (Jvm.Free.SBG.strSizeOf p2)))] [(.int p2)])) (fun t k => XS.iloadN Xh11.here hx rfl (hb hby d19_24) rfl k) ?_
  refine own_pre (B := T10.setTop (mkF m 26 #[.val (.ref a1), .val (.int p2), .val (.int w_count_a1), .val (.int (w_count_a1 + (Jvm.Free.SBG.strSizeOf p2)))] [(.int (w_count_a1 + (Jvm.Free.SBG.strSizeOf p2))), (.int p2)])) (fun t k => XS.iloadN Xh11.here hx rfl (hb hby d19_25) rfl k) ?_
  refine own_pre (B := T10.setTop (mkF m 27 #[.val (.ref a1), .val (.int p2), .val (.int w_count_a1), .val (.int (w_count_a1 + (Jvm.Free.SBG.strSizeOf p2)))] [(.ref a1), (.int (w_count_a1 + (Jvm.Free.SBG.strSizeOf p2))), (.int p2)])) (fun t k => XS.aloadN Xh11.here hx rfl (hb hby d19_26) rfl rfl k) ?_
  obtain ⟨T12, X12, e12, st12⟩ := getF Xh11 hx hZ hown (host := "") (Or.inl (hw _ (ow 30 rfl))) Via.refl e10 qV5 (g := (mkF m 27 #[.val (.ref a1), .val (.int p2), .val (.int w_count_a1), .val (.int (w_count_a1 + (Jvm.Free.SBG.strSizeOf p2)))] [(.ref a1), (.int (w_count_a1 + (Jvm.Free.SBG.strSizeOf p2))), (.int p2)])) rfl rfl (hb hby d19_27)
  refine own_pre (B := T12.setTop (mkF m 30 #[.val (.ref a1), .val (.int p2), .val (.int w_count_a1), .val (.int (w_count_a1 + (Jvm.Free.SBG.strSizeOf p2)))] [(.ref vx_5), (.int (w_count_a1 + (Jvm.Free.SBG.strSizeOf p2))), (.int p2)])) (fun t k => st12 t k) ?_
  have K13 : Keep h0 T5.heap [a1, w_value_a1] := (Keep.trans K6 K5 (allS (P := fun x => x ∈ [a1, w_value_a1] ∨ h0.size ≤ x) (Or.inl (List.mem_of_getElem? (i := 0) rfl)) (allS (P := fun x => x ∈ [a1, w_value_a1] ∨ h0.size ≤ x) (Or.inl (List.mem_of_getElem? (i := 1) rfl)) all0)))
  obtain ⟨T14, h14, L14, xs14, r14, X14, e14, N14, Kc14, V14, st14⟩ := own_gcI X12 hx hZ hown (hw _ (ow 122 rfl)) (hw _ (ow 123 rfl)) (hw _ (ow 66 rfl)) (hw _ (ow 124 rfl)) (hw _ (ow 125 rfl)) (hw _ (ow 216 rfl)) e12 qA5 TB O8 Nh11 gv5 (own_hi hA) P5.2.2 (g := (mkF m 30 #[.val (.ref a1), .val (.int p2), .val (.int w_count_a1), .val (.int (w_count_a1 + (Jvm.Free.SBG.strSizeOf p2)))] [(.ref vx_5), (.int (w_count_a1 + (Jvm.Free.SBG.strSizeOf p2))), (.int p2)])) rfl (by rw [hml]; rfl) rfl (hb hby d19_30) (by decide) (W := 0) (by show 2 * 0 + _ ≤ _; exact Nat.le_of_eq rfl) (by decide) (by decide) (by decide)
  refine own_pre (B := T14.setTop (mkF m 33 #[.val (.ref a1), .val (.int p2), .val (.int w_count_a1), .val (.int (w_count_a1 + (Jvm.Free.SBG.strSizeOf p2)))] [(.int r14)])) (fun t k => st14 t k) ?_
  refine own_pre (B := T14.setTop (mkF m 34 #[.val (.ref a1), .val (.int p2), .val (.int w_count_a1), .val (.int (w_count_a1 + (Jvm.Free.SBG.strSizeOf p2)))] [])) (fun t k => XS.pop X14.here hx rfl (hb hby d19_33) rfl rfl k) ?_
  refine own_pre (B := T14.setTop (mkF m 48 #[.val (.ref a1), .val (.int p2), .val (.int w_count_a1), .val (.int (w_count_a1 + (Jvm.Free.SBG.strSizeOf p2)))] [])) (fun t k => XS.goto X14.here hx rfl (pc0 := 34) (pc' := 48) rfl (hb hby d19_34) (by decide) (by decide) k) ?_
  refine own_pre (B := T14.setTop (mkF m 49 #[.val (.ref a1), .val (.int p2), .val (.int w_count_a1), .val (.int (w_count_a1 + (Jvm.Free.SBG.strSizeOf p2)))] [(.ref a1)])) (fun t k => XS.aloadN X14.here hx rfl (hb hby d19_48) rfl rfl k) ?_
  refine own_pre (B := T14.setTop (mkF m 50 #[.val (.ref a1), .val (.int p2), .val (.int w_count_a1), .val (.int (w_count_a1 + (Jvm.Free.SBG.strSizeOf p2)))] [(.int (w_count_a1 + (Jvm.Free.SBG.strSizeOf p2))), (.ref a1)])) (fun t k => XS.iloadN X14.here hx rfl (hb hby d19_49) rfl k) ?_
  have c15 := (Exa.keep qE5 Kc14)
  have c16 := (Fld.keep qN5 Kc14 (ninS nv5 nin0))
  have K17 : Keep h0 h14 [a1, w_value_a1] := (Keep.trans K13 Kc14 (allS (P := fun x => x ∈ [a1, w_value_a1] ∨ h0.size ≤ x) (own_memo or_vx_5 (List.mem_of_getElem? (i := 1) rfl)) all0))
  obtain ⟨T18, h18, X18, e18, W18, st18⟩ := putF X14 hx hZ hown (host := "") (Or.inl (hw _ (ow 44 rfl))) Via.refl e14 c16 c15 (Or.inl (hw _ (ow 45 rfl))) (hw _ (ow 15 rfl)) (ty := .int) (by decide) rfl rfl (g := (mkF m 50 #[.val (.ref a1), .val (.int p2), .val (.int w_count_a1), .val (.int (w_count_a1 + (Jvm.Free.SBG.strSizeOf p2)))] [(.int (w_count_a1 + (Jvm.Free.SBG.strSizeOf p2))), (.ref a1)])) rfl rfl (hb hby d19_50)
  have Fw18 := Fld.same W18 c16
  have N18 := Fr.snoc X18 N14 g_a1
  obtain ⟨Lh19, Xh19, Nh19⟩ := own_hide X18 N18
  refine own_pre (B := T18.setTop (mkF m 53 #[.val (.ref a1), .val (.int p2), .val (.int w_count_a1), .val (.int (w_count_a1 + (Jvm.Free.SBG.strSizeOf p2)))] [])) (fun t k => st18 t k) ?_
  refine own_pre (B := T18.setTop (mkF m 54 #[.val (.ref a1), .val (.int p2), .val (.int w_count_a1), .val (.int (w_count_a1 + (Jvm.Free.SBG.strSizeOf p2)))] [(.ref a1)])) (fun t k => XS.aloadN Xh19.here hx rfl (hb hby d19_53) rfl rfl k) ?_
  have K20 : Keep h0 h18 [a1, w_value_a1] := (Keep.wr K17 W18 (Or.inl (List.mem_of_getElem? (i := 0) rfl)))
  have c21 := (Fld.other W18 (Fld.keep qV5 Kc14 (ninS nv5 nin0)) (Or.inr (slot_ne (Or.inl (hw _ (ow 31 rfl))) (Or.inl (hw _ (ow 45 rfl))) (by decide) (t := (.array .byte)) (t' := .int) (by decide) (by decide))))
  have c22 := (Fld.other W18 (Fld.keep qC5 Kc14 (ninS nv5 nin0)) (Or.inr (slot_ne (Or.inl (hw _ (ow 33 rfl))) (Or.inl (hw _ (ow 45 rfl))) (by decide) (t := .byte) (t' := .int) (by decide) (by decide))))
  have c23 := (Exa.wr W18 c15)
  have c24 := (Exa.wr W18 (Exa.keep qX5 Kc14))
  have c25 := (Arv.other V14 W18 (Ne.symm nv5))
  obtain ⟨fsr26, hrr26, hrunr26, hendedr26, hWr26, hsamer26⟩ := Xh19.leave (v := some (.ref a1)) (fun h => by rw [Bd.returns] at h; cases h)
  refine ⟨_, _, (retOut Xh19 hx (i := .areturn) Bd.returns rfl (Or.inr (Or.inr (Or.inr (Or.inr ⟨rfl, rfl, rfl⟩)))) (hb hby d19_54) hrr26), hrunr26, hendedr26, _, _, rfl, ?_, ⟨_, rfl⟩, hWr26, hsamer26.mono (by decide) (by decide)⟩
  show Q19 Z a1 p2 w_value_a1 k_w_value_a1 xs NN w_count_a1 cs h0 n0 _ T18.heap _
  rw [e18]
  exact ⟨vx_5, kx_5, nx_5, xs14, rfl, Nh19, K20, gv5, or_vx_5, nv5, P5, c23, c21, c22, Fw18, c24, c25⟩
theorem pd_13 : parseMethodDescriptor "(I)Ljava/lang/AbstractStringBuilder;" = some ⟨[.int], some (.object "java/lang/AbstractStringBuilder")⟩ := by decide +kernel
theorem d18_0 : decode jdk_67_method_15_code 0 = .ok (.aload_n 0, 1) := by decide +kernel
theorem d18_1 : decode jdk_67_method_15_code 1 = .ok (.iload_n 1, 1) := by decide +kernel
theorem d18_2 : decode jdk_67_method_15_code 2 = .ok (.invokespecial 53, 3) := by decide +kernel
theorem d18_5 : decode jdk_67_method_15_code 5 = .ok (.pop, 1) := by decide +kernel
theorem d18_6 : decode jdk_67_method_15_code 6 = .ok (.aload_n 0, 1) := by decide +kernel
theorem d18_7 : decode jdk_67_method_15_code 7 = .ok (.areturn, 1) := by decide +kernel
theorem pn_18 : plainName "java/lang/StringBuilder" = true := by first | (simp [plainName, overriddenIn]; done) | decide +kernel
theorem ef_18 (m : MethodId) (x0 : Addr) (x1 : Int32) : entryFrame m #[(.ref x0), (.int x1)] 2 = mkF m 0 #[.val (.ref x0), .val (.int x1)] [] := by first | (simp [entryFrame, mkF, argsToLocals, Value.category]; done) | rfl
def Q18 (Z : State) (a1 : Addr) (p2 : Int32) (w_value_a1 : Addr) (k_w_value_a1 : ClassId) (xs : List Value) (NN : Int32) (w_count_a1 : Int32) (cs : Int32) (h0 : Heap) (n0 : Nat) (v : Option Value) (h : Heap) (L : List Loc) : Prop := ∃ (vx : Addr) (kx : ClassId) (nx : Int32) (xx : List Value), v = some (.ref a1) ∧ Fr n0 L ∧ Keep h0 h [a1, w_value_a1] ∧ n0 ≤ vx ∧ (vx = w_value_a1 ∨ h0.size ≤ vx) ∧ a1 ≠ vx ∧ own_P nx (w_count_a1 + (Jvm.Free.SBG.strSizeOf p2)) ∧ Exa Z h a1 "java/lang/StringBuilder" ∧ Fld Z h a1 "java/lang/AbstractStringBuilder" "value" "[B" (.ref vx) ∧ Fld Z h a1 "java/lang/AbstractStringBuilder" "coder" "B" (.int (0 : Int32)) ∧ Fld Z h a1 "java/lang/AbstractStringBuilder" "count" "I" (.int (w_count_a1 + (Jvm.Free.SBG.strSizeOf p2))) ∧ Exa Z h vx "[B" ∧ Arv Z h vx kx .byte nx xx (.int (0 : Int32))
set_option maxRecDepth 65536 in
set_option maxHeartbeats 40000000 in
theorem rm18 (l : Launch) (Z : State) (a0 : Array Value) (hw : ∀ d ∈ tables_1, d.before a0 Z = true) (ws : List Jvm.Cond) (a1 : Addr) (p2 : Int32) (w_value_a1 : Addr) (k_w_value_a1 : ClassId) (xs : List Value) (NN : Int32) (w_count_a1 : Int32) (cs : Int32) (h0 : Heap) (n0 : Nat) (Z0 : n0 ≤ h0.size) (E_a1 : Exa Z h0 a1 "java/lang/StringBuilder") (F_value_a1 : Fld Z h0 a1 "java/lang/AbstractStringBuilder" "value" "[B" (.ref w_value_a1)) (F_coder_a1 : Fld Z h0 a1 "java/lang/AbstractStringBuilder" "coder" "B" (.int (0 : Int32))) (V_w_value_a1 : Arv Z h0 w_value_a1 k_w_value_a1 .byte NN xs (.int (0 : Int32))) (E_w_value_a1 : Exa Z h0 w_value_a1 "[B") (F_count_a1 : Fld Z h0 a1 "java/lang/AbstractStringBuilder" "count" "I" (.int w_count_a1)) (ne_a1_w_value_a1 : a1 ≠ w_value_a1) (g_a1 : n0 ≤ a1) (g_w_value_a1 : n0 ≤ w_value_a1) (O0 : Old Z n0 h0) (SCS : Sta Z Z.heap "java/lang/String" "COMPACT_STRINGS" "Z" (.int cs)) (hcs : ¬ cs = (0 : Int32)) (TB : own_T Z) (hA : own_A w_count_a1 NN (Jvm.Free.SBG.strSizeOf p2)) :
    MetFree l (⟨"java/lang/StringBuilder", "append", "(I)Ljava/lang/StringBuilder;"⟩ : MethodName) (head1 (Jvm.Cond.code (⟨"java/lang/StringBuilder", "append", "(I)Ljava/lang/StringBuilder;"⟩ : MethodName) jdk_67_method_15_code 2 (some (.object "java/lang/StringBuilder")) :: ws) ({ frames := 5, cells := 1, slots := 172, locals := 93 } : Room)) (fun a U => a = #[(.ref a1), (.int p2)] ∧ Z.Warmed39 U.vm ∧ U.heap = h0) (fun _ _ _ _ _ => True) (fun _ U o U' => ∃ v L, o = .returned v ∧ Q18 Z a1 p2 w_value_a1 k_w_value_a1 xs NN w_count_a1 cs h0 n0 v U'.heap L ∧ FrameEnd U o U' L ({ frames := 5, cells := 1, slots := 172, locals := 93 } : Room).cells ({ frames := 5, cells := 1, slots := 172, locals := 93 } : Room).slots) := by
  refine MetFree.of_bodySF (plainFor_of_name pn_18) hisR ?_
  intro p e s m args below meth c s₁ Bd hml0 hP hK
  obtain ⟨rfl, hZ, hh⟩ := hP
  have hx := Bd.exec
  have hby := Bd.bytes
  have hml : c.maxLocals = 2 := hml0
  have hown : s.vm.findClass "java/lang/StringBuilder" = some m.cls := findClass_of_methodNamed Bd.named
  have hnm := (name_of_methodNamed Bd.named Bd.method).1
  have X0 : Stand p l e ({ frames := 5, cells := 1, slots := 172, locals := 93 } : Room) s m #[(.ref a1), (.int p2)] below meth c s₁ [] 0 0 := Stand.of_body Bd
  have e0 : s₁.heap = h0 := by rw [← hh, Bd.state]; rfl
  have N0 := Fr.nil n0
  apply own_in
  refine own_pre (B := s₁.setTop (mkF m 0 #[.val (.ref a1), .val (.int p2)] [])) (fun t k => castTop (ef_18 m a1 p2) k) ?_
  refine own_pre (B := s₁.setTop (mkF m 1 #[.val (.ref a1), .val (.int p2)] [(.ref a1)])) (fun t k => XS.aloadN X0.here hx rfl (hb hby d18_0) rfl rfl k) ?_
  refine own_pre (B := s₁.setTop (mkF m 2 #[.val (.ref a1), .val (.int p2)] [(.int p2), (.ref a1)])) (fun t k => XS.iloadN X0.here hx rfl (hb hby d18_1) rfl k) ?_
  obtain ⟨_, _, ⟨T3, L3, k3, n3⟩, -, X3, ⟨Lc3, hQ3, l3, y3, z3⟩, st3⟩ := superBack X0 hx hZ (y := (⟨"java/lang/AbstractStringBuilder", "append", "(I)Ljava/lang/AbstractStringBuilder;"⟩ : MethodName)) hown (hw _ (ow 115 rfl)) (own_same (hw _ (ow 116 rfl)) (own_nf (hw _ (ow 54 rfl)) (hw _ (ow 52 rfl)) rfl) (by decide)) (hw _ (ow 116 rfl)) (hw _ (ow 41 rfl)) (by decide) (backOf (W := 0) (rm19 l Z a0 hw [] a1 p2 w_value_a1 k_w_value_a1 xs NN w_count_a1 cs h0 n0 Z0 E_a1 F_value_a1 F_coder_a1 V_w_value_a1 E_w_value_a1 F_count_a1 ne_a1_w_value_a1 g_a1 g_w_value_a1 O0 SCS hcs TB hA) hZ (hw _ (ow 118 rfl)) (hw _ (ow 24 rfl)) (by decide) (by decide)) e0 (Ins.self E_a1) (g := (mkF m 2 #[.val (.ref a1), .val (.int p2)] [(.int p2), (.ref a1)])) rfl (by rw [hml]; rfl) (hw _ (ow 118 rfl)) (argsL := [(.int p2)]) (rest := []) (lenOf pd_13 rfl) rfl (by show 2 * 0 + _ ≤ _; exact Nat.le_of_eq rfl) (hb hby d18_2) (fun _ _ => ⟨rfl, e0, (by decide : 0 + 1 ≤ _), (by decide : 0 + 172 ≤ _)⟩)
  dsimp only [Pt.U, Pt.locs, Pt.cells, Pt.slots] at X3 l3 y3 z3 st3 hQ3
  subst l3 y3 z3
  obtain ⟨vx_3, kx_3, nx_3, xx_3, rfl, N3q, K3, gv3, ov3, nv3, P3, qE3, qV3, qC3, qN3, qX3, qA3⟩ := hQ3
  have N3 := Fr.app N0 N3q
  have K4 : Keep h0 h0 [a1, w_value_a1] := (Keep.refl h0 [a1, w_value_a1])
  have or_vx_3 : vx_3 = w_value_a1 ∨ h0.size ≤ vx_3 := own_orig ov3 (Or.inl rfl) K4.1
  obtain ⟨Lh5, Xh5, Nh5⟩ := own_hide X3 N3
  refine own_pre (B := T3.setTop (mkF m 5 #[.val (.ref a1), .val (.int p2)] [(.ref a1)])) (fun t k => st3.trans k) ?_
  refine own_pre (B := T3.setTop (mkF m 6 #[.val (.ref a1), .val (.int p2)] [])) (fun t k => XS.pop Xh5.here hx rfl (hb hby d18_5) rfl rfl k) ?_
  refine own_pre (B := T3.setTop (mkF m 7 #[.val (.ref a1), .val (.int p2)] [(.ref a1)])) (fun t k => XS.aloadN Xh5.here hx rfl (hb hby d18_6) rfl rfl k) ?_
  have K6 : Keep h0 T3.heap [a1, w_value_a1] := (Keep.trans K4 K3 (allS (P := fun x => x ∈ [a1, w_value_a1] ∨ h0.size ≤ x) (Or.inl (List.mem_of_getElem? (i := 0) rfl)) (allS (P := fun x => x ∈ [a1, w_value_a1] ∨ h0.size ≤ x) (Or.inl (List.mem_of_getElem? (i := 1) rfl)) all0)))
  obtain ⟨fsr7, hrr7, hrunr7, hendedr7, hWr7, hsamer7⟩ := Xh5.leave (v := some (.ref a1)) (fun h => by rw [Bd.returns] at h; cases h)
  refine ⟨_, _, (retOut Xh5 hx (i := .areturn) Bd.returns rfl (Or.inr (Or.inr (Or.inr (Or.inr ⟨rfl, rfl, rfl⟩)))) (hb hby d18_7) hrr7), hrunr7, hendedr7, _, _, rfl, ?_, ⟨_, rfl⟩, hWr7, hsamer7.mono (by decide) (by decide)⟩
  show Q18 Z a1 p2 w_value_a1 k_w_value_a1 xs NN w_count_a1 cs h0 n0 _ T3.heap _
  exact ⟨vx_3, kx_3, nx_3, xx_3, rfl, Nh5, K6, gv3, or_vx_3, nv3, P3, qE3, qV3, qC3, qN3, qX3, qA3⟩
theorem d3_0 : decode jdk_68_method_2_code 0 = .ok (.aload_n 0, 1) := by decide +kernel
theorem d3_1 : decode jdk_68_method_2_code 1 = .ok (.invokespecial 3, 3) := by decide +kernel
theorem d3_4 : decode jdk_68_method_2_code 4 = .ok (.getstatic 18, 3) := by decide +kernel
theorem d3_7 : decode jdk_68_method_2_code 7 = .ok (.ifCond .eq 18, 3) := by decide +kernel
theorem d3_10 : decode jdk_68_method_2_code 10 = .ok (.aload_n 0, 1) := by decide +kernel
theorem d3_11 : decode jdk_68_method_2_code 11 = .ok (.iload_n 1, 1) := by decide +kernel
theorem d3_12 : decode jdk_68_method_2_code 12 = .ok (.newarray .byte, 2) := by decide +kernel
theorem d3_14 : decode jdk_68_method_2_code 14 = .ok (.putfield 15, 3) := by decide +kernel
theorem d3_17 : decode jdk_68_method_2_code 17 = .ok (.aload_n 0, 1) := by decide +kernel
theorem d3_18 : decode jdk_68_method_2_code 18 = .ok (.iconst 0, 1) := by decide +kernel
theorem d3_19 : decode jdk_68_method_2_code 19 = .ok (.putfield 22, 3) := by decide +kernel
theorem d3_22 : decode jdk_68_method_2_code 22 = .ok (.goto 16, 3) := by decide +kernel
theorem d3_38 : decode jdk_68_method_2_code 38 = .ok (.return_, 1) := by decide +kernel
theorem pn_3 : plainName "java/lang/AbstractStringBuilder" = true := by first | (simp [plainName, overriddenIn]; done) | decide +kernel
theorem ef_3 (m : MethodId) (x0 : Addr) : entryFrame m #[(.ref x0), (.int (16 : Int32))] 2 = mkF m 0 #[.val (.ref x0), .val (.int (16 : Int32))] [] := by first | (simp [entryFrame, mkF, argsToLocals, Value.category]; done) | rfl
def Q3 (Z : State) (a1 : Addr) (cs : Int32) (w_count_a1 : Int32) (u_value_a1 : Value) (u_coder_a1 : Value) (h0 : Heap) (n0 : Nat) (v : Option Value) (h : Heap) (L : List Loc) : Prop := ∃ (b5 : Addr) (k5 : ClassId), v = none ∧ Fr n0 L ∧ Keep h0 h [a1] ∧ Exa Z h a1 "java/lang/StringBuilder" ∧ Fld Z h a1 "java/lang/AbstractStringBuilder" "count" "I" (.int w_count_a1) ∧ Fld Z h a1 "java/lang/AbstractStringBuilder" "value" "[B" (.ref b5) ∧ Fld Z h a1 "java/lang/AbstractStringBuilder" "coder" "B" (.int (0 : Int32)) ∧ n0 ≤ b5 ∧ h0.size ≤ b5 ∧ Exa Z h b5 "[B" ∧ Arv Z h b5 k5 .byte (16 : Int32) [(.int (0 : Int32)), (.int (0 : Int32)), (.int (0 : Int32)), (.int (0 : Int32)), (.int (0 : Int32)), (.int (0 : Int32)), (.int (0 : Int32)), (.int (0 : Int32)), (.int (0 : Int32)), (.int (0 : Int32)), (.int (0 : Int32)), (.int (0 : Int32)), (.int (0 : Int32)), (.int (0 : Int32)), (.int (0 : Int32)), (.int (0 : Int32))] (.int (0 : Int32))
set_option maxRecDepth 65536 in
set_option maxHeartbeats 40000000 in
theorem rm3 (l : Launch) (Z : State) (a0 : Array Value) (hw : ∀ d ∈ tables_1, d.before a0 Z = true) (ws : List Jvm.Cond) (a1 : Addr) (cs : Int32) (w_count_a1 : Int32) (u_value_a1 : Value) (u_coder_a1 : Value) (h0 : Heap) (n0 : Nat) (Z0 : n0 ≤ h0.size) (O0 : Old Z n0 h0) (SCS : Sta Z Z.heap "java/lang/String" "COMPACT_STRINGS" "Z" (.int cs)) (hcs : ¬ cs = (0 : Int32)) (E_a1 : Exa Z h0 a1 "java/lang/StringBuilder") (F_count_a1 : Fld Z h0 a1 "java/lang/AbstractStringBuilder" "count" "I" (.int w_count_a1)) (F_value_a1 : Fld Z h0 a1 "java/lang/AbstractStringBuilder" "value" "[B" u_value_a1) (g_a1 : n0 ≤ a1) (F_coder_a1 : Fld Z h0 a1 "java/lang/AbstractStringBuilder" "coder" "B" u_coder_a1) :
    MetFree l (⟨"java/lang/AbstractStringBuilder", "<init>", "(I)V"⟩ : MethodName) (head1 (Jvm.Cond.code (⟨"java/lang/AbstractStringBuilder", "<init>", "(I)V"⟩ : MethodName) jdk_68_method_2_code 2 none :: ws) ({ frames := 1, cells := 1, slots := 16, locals := 12 } : Room)) (fun a U => a = #[(.ref a1), (.int (16 : Int32))] ∧ Z.Warmed39 U.vm ∧ U.heap = h0) (fun _ _ _ _ _ => True) (fun _ U o U' => ∃ v L, o = .returned v ∧ Q3 Z a1 cs w_count_a1 u_value_a1 u_coder_a1 h0 n0 v U'.heap L ∧ FrameEnd U o U' L ({ frames := 1, cells := 1, slots := 16, locals := 12 } : Room).cells ({ frames := 1, cells := 1, slots := 16, locals := 12 } : Room).slots) := by
  refine MetFree.of_bodySF (plainFor_of_name pn_3) hisR ?_
  intro p e s m args below meth c s₁ Bd hml0 hP hK
  obtain ⟨rfl, hZ, hh⟩ := hP
  have hx := Bd.exec
  have hby := Bd.bytes
  have hml : c.maxLocals = 2 := hml0
  have hown : s.vm.findClass "java/lang/AbstractStringBuilder" = some m.cls := findClass_of_methodNamed Bd.named
  have hnm := (name_of_methodNamed Bd.named Bd.method).1
  have X0 : Stand p l e ({ frames := 1, cells := 1, slots := 16, locals := 12 } : Room) s m #[(.ref a1), (.int (16 : Int32))] below meth c s₁ [] 0 0 := Stand.of_body Bd
  have e0 : s₁.heap = h0 := by rw [← hh, Bd.state]; rfl
  have N0 := Fr.nil n0
  apply own_in
  refine own_pre (B := s₁.setTop (mkF m 0 #[.val (.ref a1), .val (.int (16 : Int32))] [])) (fun t k => castTop (ef_3 m a1) k) ?_
  refine own_pre (B := s₁.setTop (mkF m 1 #[.val (.ref a1), .val (.int (16 : Int32))] [(.ref a1)])) (fun t k => XS.aloadN X0.here hx rfl (hb hby d3_0) rfl rfl k) ?_
  obtain ⟨T2, X2, e2, st2⟩ := initO X0 hx hZ hown (hw _ (ow 26 rfl)) (hw _ (ow 27 rfl)) (hw _ (ow 28 rfl)) e0 (g := (mkF m 1 #[.val (.ref a1), .val (.int (16 : Int32))] [(.ref a1)])) rfl (by rw [hml]; rfl) rfl (hb hby d3_1) (by decide) (W := 0) (by show 2 * 0 + _ ≤ _; exact Nat.le_of_eq rfl) (by decide)
  refine own_pre (B := T2.setTop (mkF m 4 #[.val (.ref a1), .val (.int (16 : Int32))] [])) (fun t k => st2 t k) ?_
  obtain ⟨T3, X3, e3, st3⟩ := getS2 X2 hx hZ hown (host := "") (Or.inl (hw _ (ow 29 rfl))) Via.refl e2 (Sta.ext O0.2 SCS) (g := (mkF m 4 #[.val (.ref a1), .val (.int (16 : Int32))] [])) rfl (hb hby d3_4)
  refine own_pre (B := T3.setTop (mkF m 7 #[.val (.ref a1), .val (.int (16 : Int32))] [(.int cs)])) (fun t k => st3 t k) ?_
  refine own_pre (B := T3.setTop (mkF m 10 #[.val (.ref a1), .val (.int (16 : Int32))] [])) (fun t k => XS.ifNo X3.here hx rfl (hb hby d3_7) rfl ((if0 _ _).trans (feq hcs).1) k) ?_
  refine own_pre (B := T3.setTop (mkF m 11 #[.val (.ref a1), .val (.int (16 : Int32))] [(.ref a1)])) (fun t k => XS.aloadN X3.here hx rfl (hb hby d3_10) rfl rfl k) ?_
  refine own_pre (B := T3.setTop (mkF m 12 #[.val (.ref a1), .val (.int (16 : Int32))] [(.int (16 : Int32)), (.ref a1)])) (fun t k => XS.iloadN X3.here hx rfl (hb hby d3_11) rfl k) ?_
  have K4 : Keep h0 h0 [a1] := (Keep.refl h0 [a1])
  obtain ⟨T5, h5, k5, X5, e5, E5, A5, Q5, st5⟩ := own_newQ X3 hx hZ (hw _ (ow 3 rfl)) e3 (g := (mkF m 12 #[.val (.ref a1), .val (.int (16 : Int32))] [(.int (16 : Int32)), (.ref a1)])) rfl (hb hby d3_12) rfl (by decide) (cap := 16) (by decide) (by decide) (by decide) (by decide) (C := "[B") rfl
  obtain ⟨b5, g5⟩ : ∃ z, z = h0.size := ⟨_, rfl⟩
  rw [← g5] at A5 Q5 st5
  have g_b5 : n0 ≤ b5 := Nat.le_trans Z0 (Nat.le_of_eq g5.symm)
  have s_b5 : h0.size ≤ b5 := Nat.le_trans K4.1 (Nat.le_of_eq g5.symm)
  have ne6 : a1 ≠ b5 := Nat.ne_of_lt (Nat.lt_of_lt_of_le (Exa.lt E_a1) (Nat.le_of_eq g5.symm))
  have V_b5 : Arv Z h5 b5 k5 .byte (16 : Int32) [(.int (0 : Int32)), (.int (0 : Int32)), (.int (0 : Int32)), (.int (0 : Int32)), (.int (0 : Int32)), (.int (0 : Int32)), (.int (0 : Int32)), (.int (0 : Int32)), (.int (0 : Int32)), (.int (0 : Int32)), (.int (0 : Int32)), (.int (0 : Int32)), (.int (0 : Int32)), (.int (0 : Int32)), (.int (0 : Int32)), (.int (0 : Int32))] (.int (0 : Int32)) := (Arv.new A5 (by decide)).pad (pad_rep [] (.int (0 : Int32)) 16)
  refine own_pre (B := T5.setTop (mkF m 14 #[.val (.ref a1), .val (.int (16 : Int32))] [(.ref b5), (.ref a1)])) (fun t k => st5 t k) ?_
  have c7 := (E_a1.ext E5)
  have c8 := (F_value_a1.ext E5)
  have K9 : Keep h0 h5 [a1] := (Keep.ext K4 E5)
  obtain ⟨T10, h10, X10, e10, W10, st10⟩ := putF X5 hx hZ hown (host := "") (Or.inl (hw _ (ow 30 rfl))) Via.refl e5 c8 c7 (Or.inl (hw _ (ow 31 rfl))) (hw _ (ow 15 rfl)) (ty := (.array .byte)) (by decide) rfl rfl (g := (mkF m 14 #[.val (.ref a1), .val (.int (16 : Int32))] [(.ref b5), (.ref a1)])) rfl rfl (hb hby d3_14)
  have Fw10 := Fld.same W10 c8
  have N10 := Fr.snoc X10 N0 g_a1
  obtain ⟨Lh11, Xh11, Nh11⟩ := own_hide X10 N10
  refine own_pre (B := T10.setTop (mkF m 17 #[.val (.ref a1), .val (.int (16 : Int32))] [])) (fun t k => st10 t k) ?_
  refine own_pre (B := T10.setTop (mkF m 18 #[.val (.ref a1), .val (.int (16 : Int32))] [(.ref a1)])) (fun t k => XS.aloadN Xh11.here hx rfl (hb hby d3_17) rfl rfl k) ?_
  refine own_pre (B := T10.setTop (mkF m 19 #[.val (.ref a1), .val (.int (16 : Int32))] [(.int (0 : Int32)), (.ref a1)])) (fun t k => XS.iconst Xh11.here hx rfl (hb hby d3_18) k) ?_
  have c12 := (Exa.wr W10 c7)
  have c13 := (Fld.other W10 (F_coder_a1.ext E5) (Or.inr (slot_ne (Or.inl (hw _ (ow 33 rfl))) (Or.inl (hw _ (ow 31 rfl))) (by decide) (t := .byte) (t' := (.array .byte)) (by decide) (by decide))))
  have K14 : Keep h0 h10 [a1] := (Keep.wr K9 W10 (Or.inl (List.mem_of_getElem? (i := 0) rfl)))
  obtain ⟨T15, h15, X15, e15, W15, st15⟩ := putFN Xh11 hx hZ hown (hw _ (ow 32 rfl)) Via.refl e10 c13 c12 (Or.inl (hw _ (ow 33 rfl))) (hw _ (ow 15 rfl)) (ty := .byte) (v' := (.int (0 : Int32))) (by decide) rfl rfl (g := (mkF m 19 #[.val (.ref a1), .val (.int (16 : Int32))] [(.int (0 : Int32)), (.ref a1)])) rfl rfl (hb hby d3_19)
  have Fw15 := Fld.same W15 c13
  have N15 := Fr.snoc X15 Nh11 g_a1
  obtain ⟨Lh16, Xh16, Nh16⟩ := own_hide X15 N15
  refine own_pre (B := T15.setTop (mkF m 22 #[.val (.ref a1), .val (.int (16 : Int32))] [])) (fun t k => st15 t k) ?_
  refine own_pre (B := T15.setTop (mkF m 38 #[.val (.ref a1), .val (.int (16 : Int32))] [])) (fun t k => XS.goto Xh16.here hx rfl (pc0 := 22) (pc' := 38) rfl (hb hby d3_22) (by decide) (by decide) k) ?_
  have K17 : Keep h0 h15 [a1] := (Keep.wr K14 W15 (Or.inl (List.mem_of_getElem? (i := 0) rfl)))
  have c18 := (Exa.wr W15 c12)
  have c19 := (Fld.other W15 (Fld.other W10 (F_count_a1.ext E5) (Or.inr (slot_ne (Or.inl (hw _ (ow 45 rfl))) (Or.inl (hw _ (ow 31 rfl))) (by decide) (t := .int) (t' := (.array .byte)) (by decide) (by decide)))) (Or.inr (slot_ne (Or.inl (hw _ (ow 45 rfl))) (Or.inl (hw _ (ow 33 rfl))) (by decide) (t := .int) (t' := .byte) (by decide) (by decide))))
  have c20 := (Fld.other W15 Fw10 (Or.inr (slot_ne (Or.inl (hw _ (ow 31 rfl))) (Or.inl (hw _ (ow 33 rfl))) (by decide) (t := (.array .byte)) (t' := .byte) (by decide) (by decide))))
  have c21 := (Exa.wr W15 (Exa.wr W10 Q5))
  have c22 := (Arv.other (Arv.other V_b5 W10 (Ne.symm ne6)) W15 (Ne.symm ne6))
  obtain ⟨fsr23, hrr23, hrunr23, hendedr23, hWr23, hsamer23⟩ := Xh16.leave (v := none) (fun _ => rfl)
  refine ⟨_, _, (Xh16.returnOut hx Bd.returns (hb hby d3_38) hrr23), hrunr23, hendedr23, _, _, rfl, ?_, ⟨_, rfl⟩, hWr23, hsamer23.mono (by decide) (by decide)⟩
  show Q3 Z a1 cs w_count_a1 u_value_a1 u_coder_a1 h0 n0 _ T15.heap _
  rw [e15]
  exact ⟨b5, k5, rfl, Nh16, K17, c18, c19, c20, Fw15, g_b5, s_b5, c21, c22⟩
theorem d2_0 : decode jdk_67_method_1_code 0 = .ok (.aload_n 0, 1) := by decide +kernel
theorem d2_1 : decode jdk_67_method_1_code 1 = .ok (.bipush 16, 2) := by decide +kernel
theorem d2_3 : decode jdk_67_method_1_code 3 = .ok (.invokespecial 1, 3) := by decide +kernel
theorem d2_6 : decode jdk_67_method_1_code 6 = .ok (.return_, 1) := by decide +kernel
theorem pn_2 : plainName "java/lang/StringBuilder" = true := by first | (simp [plainName, overriddenIn]; done) | decide +kernel
theorem ef_2 (m : MethodId) (x0 : Addr) : entryFrame m #[(.ref x0)] 1 = mkF m 0 #[.val (.ref x0)] [] := by first | (simp [entryFrame, mkF, argsToLocals, Value.category]; done) | rfl
def Q2 (Z : State) (a1 : Addr) (cs : Int32) (u_value_a1 : Value) (u_coder_a1 : Value) (w_count_a1 : Int32) (h0 : Heap) (n0 : Nat) (v : Option Value) (h : Heap) (L : List Loc) : Prop := ∃ (b5_2 : Addr) (k5_2 : ClassId), v = none ∧ Fr n0 L ∧ Keep h0 h [a1] ∧ Exa Z h a1 "java/lang/StringBuilder" ∧ Fld Z h a1 "java/lang/AbstractStringBuilder" "value" "[B" (.ref b5_2) ∧ Fld Z h a1 "java/lang/AbstractStringBuilder" "coder" "B" (.int (0 : Int32)) ∧ Fld Z h a1 "java/lang/AbstractStringBuilder" "count" "I" (.int w_count_a1) ∧ n0 ≤ b5_2 ∧ h0.size ≤ b5_2 ∧ Exa Z h b5_2 "[B" ∧ Arv Z h b5_2 k5_2 .byte (16 : Int32) [(.int (0 : Int32)), (.int (0 : Int32)), (.int (0 : Int32)), (.int (0 : Int32)), (.int (0 : Int32)), (.int (0 : Int32)), (.int (0 : Int32)), (.int (0 : Int32)), (.int (0 : Int32)), (.int (0 : Int32)), (.int (0 : Int32)), (.int (0 : Int32)), (.int (0 : Int32)), (.int (0 : Int32)), (.int (0 : Int32)), (.int (0 : Int32))] (.int (0 : Int32))
set_option maxRecDepth 65536 in
set_option maxHeartbeats 40000000 in
theorem rm2 (l : Launch) (Z : State) (a0 : Array Value) (hw : ∀ d ∈ tables_1, d.before a0 Z = true) (ws : List Jvm.Cond) (a1 : Addr) (cs : Int32) (u_value_a1 : Value) (u_coder_a1 : Value) (w_count_a1 : Int32) (h0 : Heap) (n0 : Nat) (Z0 : n0 ≤ h0.size) (O0 : Old Z n0 h0) (SCS : Sta Z Z.heap "java/lang/String" "COMPACT_STRINGS" "Z" (.int cs)) (hcs : ¬ cs = (0 : Int32)) (E_a1 : Exa Z h0 a1 "java/lang/StringBuilder") (F_value_a1 : Fld Z h0 a1 "java/lang/AbstractStringBuilder" "value" "[B" u_value_a1) (F_coder_a1 : Fld Z h0 a1 "java/lang/AbstractStringBuilder" "coder" "B" u_coder_a1) (F_count_a1 : Fld Z h0 a1 "java/lang/AbstractStringBuilder" "count" "I" (.int w_count_a1)) (g_a1 : n0 ≤ a1) :
    MetFree l (⟨"java/lang/StringBuilder", "<init>", "()V"⟩ : MethodName) (head1 (Jvm.Cond.code (⟨"java/lang/StringBuilder", "<init>", "()V"⟩ : MethodName) jdk_67_method_1_code 1 none :: ws) ({ frames := 2, cells := 1, slots := 16, locals := 25 } : Room)) (fun a U => a = #[(.ref a1)] ∧ Z.Warmed39 U.vm ∧ U.heap = h0) (fun _ _ _ _ _ => True) (fun _ U o U' => ∃ v L, o = .returned v ∧ Q2 Z a1 cs u_value_a1 u_coder_a1 w_count_a1 h0 n0 v U'.heap L ∧ FrameEnd U o U' L ({ frames := 2, cells := 1, slots := 16, locals := 25 } : Room).cells ({ frames := 2, cells := 1, slots := 16, locals := 25 } : Room).slots) := by
  refine MetFree.of_bodySF (plainFor_of_name pn_2) hisR ?_
  intro p e s m args below meth c s₁ Bd hml0 hP hK
  obtain ⟨rfl, hZ, hh⟩ := hP
  have hx := Bd.exec
  have hby := Bd.bytes
  have hml : c.maxLocals = 1 := hml0
  have hown : s.vm.findClass "java/lang/StringBuilder" = some m.cls := findClass_of_methodNamed Bd.named
  have hnm := (name_of_methodNamed Bd.named Bd.method).1
  have X0 : Stand p l e ({ frames := 2, cells := 1, slots := 16, locals := 25 } : Room) s m #[(.ref a1)] below meth c s₁ [] 0 0 := Stand.of_body Bd
  have e0 : s₁.heap = h0 := by rw [← hh, Bd.state]; rfl
  have N0 := Fr.nil n0
  apply own_in
  refine own_pre (B := s₁.setTop (mkF m 0 #[.val (.ref a1)] [])) (fun t k => castTop (ef_2 m a1) k) ?_
  refine own_pre (B := s₁.setTop (mkF m 1 #[.val (.ref a1)] [(.ref a1)])) (fun t k => XS.aloadN X0.here hx rfl (hb hby d2_0) rfl rfl k) ?_
  refine own_pre (B := s₁.setTop (mkF m 3 #[.val (.ref a1)] [(.int (16 : Int32)), (.ref a1)])) (fun t k => XS.bipush X0.here hx rfl (hb hby d2_1) k) ?_
  obtain ⟨_, _, ⟨T2, L2, k2, n2⟩, -, X2, ⟨Lc2, hQ2, l2, y2, z2⟩, st2⟩ := X0.specialBack hx (y := (⟨"java/lang/AbstractStringBuilder", "<init>", "(I)V"⟩ : MethodName)) rfl hown (mvT hZ (hw _ (ow 20 rfl))) (mvT hZ (hw _ (ow 21 rfl))) (mvT hZ (hw _ (ow 25 rfl))) (by decide) (backOf (W := 0) (rm3 l Z a0 hw [] a1 cs w_count_a1 u_value_a1 u_coder_a1 h0 n0 Z0 O0 SCS hcs E_a1 F_count_a1 F_value_a1 g_a1 F_coder_a1) hZ (hw _ (ow 25 rfl)) (hw _ (ow 24 rfl)) (by decide) (by decide)) (g := (mkF m 3 #[.val (.ref a1)] [(.int (16 : Int32)), (.ref a1)])) rfl (by rw [hml]; rfl) (Steps.refl _) (a := a1) (argsL := [(.int (16 : Int32))]) (rest := []) (lenOf pd_8 rfl) rfl (by show 2 * 0 + _ ≤ _; exact Nat.le_of_eq rfl) (hb hby d2_3) (fun _ _ => ⟨rfl, e0, (by decide : 0 + 1 ≤ _), (by decide : 0 + 16 ≤ _)⟩)
  dsimp only [Pt.U, Pt.locs, Pt.cells, Pt.slots] at X2 l2 y2 z2 st2 hQ2
  subst l2 y2 z2
  obtain ⟨b5_2, k5_2, rfl, N2q, K2, q2_0, q2_1, q2_2, q2_3, q2_4, q2_5, q2_6, q2_7⟩ := hQ2
  have N2 := Fr.app N0 N2q
  have K3 : Keep h0 h0 [a1] := (Keep.refl h0 [a1])
  have ne4 : a1 ≠ b5_2 := Nat.ne_of_lt (Nat.lt_of_lt_of_le (Exa.lt E_a1) q2_5)
  have s_b5_2 : h0.size ≤ b5_2 := Nat.le_trans K3.1 q2_5
  obtain ⟨Lh5, Xh5, Nh5⟩ := own_hide X2 N2
  refine own_pre (B := T2.setTop (mkF m 6 #[.val (.ref a1)] [])) (fun t k => st2.trans k) ?_
  have K6 : Keep h0 T2.heap [a1] := (Keep.trans K3 K2 (allS (P := fun x => x ∈ [a1] ∨ h0.size ≤ x) (Or.inl (List.mem_of_getElem? (i := 0) rfl)) all0))
  obtain ⟨fsr7, hrr7, hrunr7, hendedr7, hWr7, hsamer7⟩ := Xh5.leave (v := none) (fun _ => rfl)
  refine ⟨_, _, (Xh5.returnOut hx Bd.returns (hb hby d2_6) hrr7), hrunr7, hendedr7, _, _, rfl, ?_, ⟨_, rfl⟩, hWr7, hsamer7.mono (by decide) (by decide)⟩
  show Q2 Z a1 cs u_value_a1 u_coder_a1 w_count_a1 h0 n0 _ T2.heap _
  exact ⟨b5_2, k5_2, rfl, Nh5, K6, q2_0, q2_2, q2_3, q2_1, q2_4, s_b5_2, q2_6, q2_7⟩
theorem d35_0 : decode jdk_65_method_131_code 0 = .ok (.iload_n 1, 1) := by decide +kernel
theorem d35_1 : decode jdk_65_method_131_code 1 = .ok (.iload_n 0, 1) := by decide +kernel
theorem d35_2 : decode jdk_65_method_131_code 2 = .ok (.if_icmp .ge 35, 3) := by decide +kernel
theorem d35_37 : decode jdk_65_method_131_code 37 = .ok (.return_, 1) := by decide +kernel
theorem pn_35 : plainName "java/util/Arrays" = true := by first | (simp [plainName, overriddenIn]; done) | decide +kernel
theorem ef_35 (m : MethodId) (x1 : Int32) : entryFrame m #[(.int (0 : Int32)), (.int x1)] 2 = mkF m 0 #[.val (.int (0 : Int32)), .val (.int x1)] [] := by first | (simp [entryFrame, mkF, argsToLocals, Value.category]; done) | rfl
def Q35 (Z : State) (p1 : Int32) (h0 : Heap) (n0 : Nat) (v : Option Value) (h : Heap) (L : List Loc) : Prop := v = none ∧ Fr n0 L ∧ h = h0
set_option maxRecDepth 65536 in
set_option maxHeartbeats 40000000 in
theorem rm35 (l : Launch) (Z : State) (a0 : Array Value) (hw : ∀ d ∈ tables_1, d.before a0 Z = true) (ws : List Jvm.Cond) (p1 : Int32) (h0 : Heap) (n0 : Nat) (Z0 : n0 ≤ h0.size) (hp : ¬ p1 < (0 : Int32)) :
    MetFree l (⟨"java/util/Arrays", "checkLength", "(II)V"⟩ : MethodName) (head1 (Jvm.Cond.code (⟨"java/util/Arrays", "checkLength", "(II)V"⟩ : MethodName) jdk_65_method_131_code 2 none :: ws) ({ frames := 0, cells := 0, slots := 0, locals := 0 } : Room)) (fun a U => a = #[(.int (0 : Int32)), (.int p1)] ∧ Z.Warmed39 U.vm ∧ U.heap = h0) (fun _ _ _ _ _ => True) (fun _ U o U' => ∃ v L, o = .returned v ∧ Q35 Z p1 h0 n0 v U'.heap L ∧ FrameEnd U o U' L ({ frames := 0, cells := 0, slots := 0, locals := 0 } : Room).cells ({ frames := 0, cells := 0, slots := 0, locals := 0 } : Room).slots) := by
  refine MetFree.of_bodySF (plainFor_of_name pn_35) hisR ?_
  intro p e s m args below meth c s₁ Bd hml0 hP hK
  obtain ⟨rfl, hZ, hh⟩ := hP
  have hx := Bd.exec
  have hby := Bd.bytes
  have hml : c.maxLocals = 2 := hml0
  have hown : s.vm.findClass "java/util/Arrays" = some m.cls := findClass_of_methodNamed Bd.named
  have hnm := (name_of_methodNamed Bd.named Bd.method).1
  have X0 : Stand p l e ({ frames := 0, cells := 0, slots := 0, locals := 0 } : Room) s m #[(.int (0 : Int32)), (.int p1)] below meth c s₁ [] 0 0 := Stand.of_body Bd
  have e0 : s₁.heap = h0 := by rw [← hh, Bd.state]; rfl
  have N0 := Fr.nil n0
  apply own_in
  refine own_pre (B := s₁.setTop (mkF m 0 #[.val (.int (0 : Int32)), .val (.int p1)] [])) (fun t k => castTop (ef_35 m p1) k) ?_
  refine own_pre (B := s₁.setTop (mkF m 1 #[.val (.int (0 : Int32)), .val (.int p1)] [(.int p1)])) (fun t k => XS.iloadN X0.here hx rfl (hb hby d35_0) rfl k) ?_
  refine own_pre (B := s₁.setTop (mkF m 2 #[.val (.int (0 : Int32)), .val (.int p1)] [(.int (0 : Int32)), (.int p1)])) (fun t k => XS.iloadN X0.here hx rfl (hb hby d35_1) rfl k) ?_
  refine own_pre (B := s₁.setTop (mkF m 37 #[.val (.int (0 : Int32)), .val (.int p1)] [])) (fun t k => XS.icmpYes X0.here hx rfl (pc0 := 2) (pc' := 37) rfl (hb hby d35_2) rfl (flt hp).2.1 (by decide) (by decide) k) ?_
  obtain ⟨fsr2, hrr2, hrunr2, hendedr2, hWr2, hsamer2⟩ := X0.leave (v := none) (fun _ => rfl)
  refine ⟨_, _, (X0.returnOut hx Bd.returns (hb hby d35_37) hrr2), hrunr2, hendedr2, _, _, rfl, ?_, ⟨_, rfl⟩, hWr2, hsamer2.mono (by decide) (by decide)⟩
  show Q35 Z p1 h0 n0 _ s₁.heap _
  rw [e0]
  exact ⟨rfl, N0, rfl⟩
theorem pd_14 : parseMethodDescriptor "(II)V" = some ⟨[.int, .int], none⟩ := by decide +kernel
theorem d34_0 : decode jdk_65_method_133_code 0 = .ok (.iload_n 1, 1) := by decide +kernel
theorem d34_1 : decode jdk_65_method_133_code 1 = .ok (.iload_n 2, 1) := by decide +kernel
theorem d34_2 : decode jdk_65_method_133_code 2 = .ok (.invokestatic 343, 3) := by decide +kernel
theorem d34_5 : decode jdk_65_method_133_code 5 = .ok (.iload_n 2, 1) := by decide +kernel
theorem d34_6 : decode jdk_65_method_133_code 6 = .ok (.iload_n 1, 1) := by decide +kernel
theorem d34_7 : decode jdk_65_method_133_code 7 = .ok (.isub, 1) := by decide +kernel
theorem d34_8 : decode jdk_65_method_133_code 8 = .ok (.istore_n 3, 1) := by decide +kernel
theorem d34_9 : decode jdk_65_method_133_code 9 = .ok (.iload_n 3, 1) := by decide +kernel
theorem d34_10 : decode jdk_65_method_133_code 10 = .ok (.newarray .byte, 2) := by decide +kernel
theorem d34_12 : decode jdk_65_method_133_code 12 = .ok (.astore 4, 2) := by decide +kernel
theorem d34_14 : decode jdk_65_method_133_code 14 = .ok (.aload_n 0, 1) := by decide +kernel
theorem d34_15 : decode jdk_65_method_133_code 15 = .ok (.iload_n 1, 1) := by decide +kernel
theorem d34_16 : decode jdk_65_method_133_code 16 = .ok (.aload 4, 2) := by decide +kernel
theorem d34_18 : decode jdk_65_method_133_code 18 = .ok (.iconst 0, 1) := by decide +kernel
theorem d34_19 : decode jdk_65_method_133_code 19 = .ok (.aload_n 0, 1) := by decide +kernel
theorem d34_20 : decode jdk_65_method_133_code 20 = .ok (.arraylength, 1) := by decide +kernel
theorem d34_21 : decode jdk_65_method_133_code 21 = .ok (.iload_n 1, 1) := by decide +kernel
theorem d34_22 : decode jdk_65_method_133_code 22 = .ok (.isub, 1) := by decide +kernel
theorem d34_23 : decode jdk_65_method_133_code 23 = .ok (.iload_n 3, 1) := by decide +kernel
theorem d34_24 : decode jdk_65_method_133_code 24 = .ok (.invokestatic 304, 3) := by decide +kernel
theorem d34_27 : decode jdk_65_method_133_code 27 = .ok (.invokestatic 150, 3) := by decide +kernel
theorem d34_30 : decode jdk_65_method_133_code 30 = .ok (.aload 4, 2) := by decide +kernel
theorem d34_32 : decode jdk_65_method_133_code 32 = .ok (.areturn, 1) := by decide +kernel
theorem pn_34 : plainName "java/util/Arrays" = true := by first | (simp [plainName, overriddenIn]; done) | decide +kernel
theorem ef_34 (m : MethodId) (x0 : Addr) (x2 : Int32) : entryFrame m #[(.ref x0), (.int (0 : Int32)), (.int x2)] 5 = mkF m 0 #[.val (.ref x0), .val (.int (0 : Int32)), .val (.int x2), .unset, .unset] [] := by first | (simp [entryFrame, mkF, argsToLocals, Value.category]; done) | rfl
def Q34 (Z : State) (a1 : Addr) (p2 : Int32) (k_a1 : ClassId) (xs : List Value) (nn : Int32) (h0 : Heap) (n0 : Nat) (v : Option Value) (h : Heap) (L : List Loc) : Prop := ∃ (b6 : Addr) (k6 : ClassId) (ub0 : List Value), v = some (.ref b6) ∧ Fr n0 L ∧ Keep h0 h [] ∧ n0 ≤ b6 ∧ h0.size ≤ b6 ∧ Exa Z h b6 "[B" ∧ Arv Z h b6 k6 .byte p2 ub0 (.int (0 : Int32))
set_option maxRecDepth 65536 in
set_option maxHeartbeats 40000000 in
theorem rm34 (l : Launch) (Z : State) (a0 : Array Value) (hw : ∀ d ∈ tables_1, d.before a0 Z = true) (ws : List Jvm.Cond) (a1 : Addr) (p2 : Int32) (k_a1 : ClassId) (xs : List Value) (nn : Int32) (h0 : Heap) (n0 : Nat) (Z0 : n0 ≤ h0.size) (V_a1 : Arv Z h0 a1 k_a1 .byte nn xs (.int (0 : Int32))) (hp : ¬ p2 < (0 : Int32)) (hcap : p2.toNatClampNeg ≤ 172) :
    MetFree l (⟨"java/util/Arrays", "copyOfRangeByte", "([BII)[B"⟩ : MethodName) (head1 (Jvm.Cond.code (⟨"java/util/Arrays", "copyOfRangeByte", "([BII)[B"⟩ : MethodName) jdk_65_method_133_code 5 (some (.array .byte)) :: ws) ({ frames := 1, cells := 1, slots := 172, locals := 18 } : Room)) (fun a U => a = #[(.ref a1), (.int (0 : Int32)), (.int p2)] ∧ Z.Warmed39 U.vm ∧ U.heap = h0) (fun _ _ _ _ _ => True) (fun _ U o U' => ∃ v L, o = .returned v ∧ Q34 Z a1 p2 k_a1 xs nn h0 n0 v U'.heap L ∧ FrameEnd U o U' L ({ frames := 1, cells := 1, slots := 172, locals := 18 } : Room).cells ({ frames := 1, cells := 1, slots := 172, locals := 18 } : Room).slots) := by
  refine MetFree.of_bodySF (plainFor_of_name pn_34) hisR ?_
  intro p e s m args below meth c s₁ Bd hml0 hP hK
  obtain ⟨rfl, hZ, hh⟩ := hP
  have hx := Bd.exec
  have hby := Bd.bytes
  have hml : c.maxLocals = 5 := hml0
  have hown : s.vm.findClass "java/util/Arrays" = some m.cls := findClass_of_methodNamed Bd.named
  have hnm := (name_of_methodNamed Bd.named Bd.method).1
  have X0 : Stand p l e ({ frames := 1, cells := 1, slots := 172, locals := 18 } : Room) s m #[(.ref a1), (.int (0 : Int32)), (.int p2)] below meth c s₁ [] 0 0 := Stand.of_body Bd
  have e0 : s₁.heap = h0 := by rw [← hh, Bd.state]; rfl
  have N0 := Fr.nil n0
  apply own_in
  refine own_pre (B := s₁.setTop (mkF m 0 #[.val (.ref a1), .val (.int (0 : Int32)), .val (.int p2), .unset, .unset] [])) (fun t k => castTop (ef_34 m a1 p2) k) ?_
  refine own_pre (B := s₁.setTop (mkF m 1 #[.val (.ref a1), .val (.int (0 : Int32)), .val (.int p2), .unset, .unset] [(.int (0 : Int32))])) (fun t k => XS.iloadN X0.here hx rfl (hb hby d34_0) rfl k) ?_
  refine own_pre (B := s₁.setTop (mkF m 2 #[.val (.ref a1), .val (.int (0 : Int32)), .val (.int p2), .unset, .unset] [(.int p2), (.int (0 : Int32))])) (fun t k => XS.iloadN X0.here hx rfl (hb hby d34_1) rfl k) ?_
  obtain ⟨_, _, ⟨T3, L3, k3, n3⟩, -, X3, ⟨Lc3, hQ3, l3, y3, z3⟩, st3⟩ := Jvm.LawKit.callS X0 hx (y := (⟨"java/util/Arrays", "checkLength", "(II)V"⟩ : MethodName)) hown (mvT hZ (hw _ (ow 186 rfl))) (mvT hZ (hw _ (ow 187 rfl))) (mvT hZ (hw _ (ow 144 rfl))) (mvT hZ (hw _ (ow 188 rfl))) (by decide) (backOf (W := 0) (rm35 l Z a0 hw [] p2 h0 n0 Z0 hp) hZ (hw _ (ow 188 rfl)) (hw _ (ow 144 rfl)) (by decide) (by decide)) (g := (mkF m 2 #[.val (.ref a1), .val (.int (0 : Int32)), .val (.int p2), .unset, .unset] [(.int p2), (.int (0 : Int32))])) rfl (by rw [hml]; rfl) (argsL := [(.int (0 : Int32)), (.int p2)]) (rest := []) (lenOf pd_14 rfl) rfl (by show 2 * 0 + _ ≤ _; exact Nat.le_of_eq rfl) (hb hby d34_2) (fun _ _ => ⟨rfl, e0, (by decide : 0 + 0 ≤ _), (by decide : 0 + 0 ≤ _)⟩)
  dsimp only [Pt.U, Pt.locs, Pt.cells, Pt.slots] at X3 l3 y3 z3 st3 hQ3
  subst l3 y3 z3
  obtain ⟨rfl, N3q, e3⟩ := hQ3
  have N3 := Fr.app N0 N3q
  obtain ⟨Lh4, Xh4, Nh4⟩ := own_hide X3 N3
  refine own_pre (B := T3.setTop (mkF m 5 #[.val (.ref a1), .val (.int (0 : Int32)), .val (.int p2), .unset, .unset] [])) (fun t k => st3 t k) ?_
  refine own_pre (B := T3.setTop (mkF m 6 #[.val (.ref a1), .val (.int (0 : Int32)), .val (.int p2), .unset, .unset] [(.int p2)])) (fun t k => XS.iloadN Xh4.here hx rfl (hb hby d34_5) rfl k) ?_
  refine own_pre (B := T3.setTop (mkF m 7 #[.val (.ref a1), .val (.int (0 : Int32)), .val (.int p2), .unset, .unset] [(.int (0 : Int32)), (.int p2)])) (fun t k => XS.iloadN Xh4.here hx rfl (hb hby d34_6) rfl k) ?_
  refine own_pre (B := T3.setTop (mkF m 8 #[.val (.ref a1), .val (.int (0 : Int32)), .val (.int p2), .unset, .unset] [(.int p2)])) (fun t k => XS.isub Xh4.here hx rfl (hb hby d34_7) rfl (by rw [Int32.sub_zero]; exact k)) ?_
  refine own_pre (B := T3.setTop (mkF m 9 #[.val (.ref a1), .val (.int (0 : Int32)), .val (.int p2), .val (.int p2), .unset] [])) (fun t k => XS.istoreN Xh4.here hx rfl (hb hby d34_8) rfl (l' := #[.val (.ref a1), .val (.int (0 : Int32)), .val (.int p2), .val (.int p2), .unset]) rfl k) ?_
  refine own_pre (B := T3.setTop (mkF m 10 #[.val (.ref a1), .val (.int (0 : Int32)), .val (.int p2), .val (.int p2), .unset] [(.int p2)])) (fun t k => XS.iloadN Xh4.here hx rfl (hb hby d34_9) rfl k) ?_
  have K5 : Keep h0 h0 [] := (Keep.refl h0 [])
  obtain ⟨T6, h6, k6, X6, e6, E6, A6, Q6, st6⟩ := own_newQ Xh4 hx hZ (hw _ (ow 3 rfl)) e3 (g := (mkF m 10 #[.val (.ref a1), .val (.int (0 : Int32)), .val (.int p2), .val (.int p2), .unset] [(.int p2)])) rfl (hb hby d34_10) rfl hp (cap := 172) hcap (by decide) (by decide) (by decide) (C := "[B") rfl
  obtain ⟨b6, g6⟩ : ∃ z, z = h0.size := ⟨_, rfl⟩
  rw [← g6] at A6 Q6 st6
  have g_b6 : n0 ≤ b6 := Nat.le_trans Z0 (Nat.le_of_eq g6.symm)
  have s_b6 : h0.size ≤ b6 := Nat.le_trans K5.1 (Nat.le_of_eq g6.symm)
  have ne7 : a1 ≠ b6 := Nat.ne_of_lt (Nat.lt_of_lt_of_le (Arv.lt V_a1) (Nat.le_of_eq g6.symm))
  have V_b6 : Arv Z h6 b6 k6 .byte p2 [] (.int (0 : Int32)) := Arv.new A6 hp
  refine own_pre (B := T6.setTop (mkF m 12 #[.val (.ref a1), .val (.int (0 : Int32)), .val (.int p2), .val (.int p2), .unset] [(.ref b6)])) (fun t k => st6 t k) ?_
  refine own_pre (B := T6.setTop (mkF m 14 #[.val (.ref a1), .val (.int (0 : Int32)), .val (.int p2), .val (.int p2), .val (.ref b6)] [])) (fun t k => XS.astore X6.here hx rfl (hb hby d34_12) rfl rfl (l' := #[.val (.ref a1), .val (.int (0 : Int32)), .val (.int p2), .val (.int p2), .val (.ref b6)]) rfl k) ?_
  refine own_pre (B := T6.setTop (mkF m 15 #[.val (.ref a1), .val (.int (0 : Int32)), .val (.int p2), .val (.int p2), .val (.ref b6)] [(.ref a1)])) (fun t k => XS.aloadN X6.here hx rfl (hb hby d34_14) rfl rfl k) ?_
  refine own_pre (B := T6.setTop (mkF m 16 #[.val (.ref a1), .val (.int (0 : Int32)), .val (.int p2), .val (.int p2), .val (.ref b6)] [(.int (0 : Int32)), (.ref a1)])) (fun t k => XS.iloadN X6.here hx rfl (hb hby d34_15) rfl k) ?_
  refine own_pre (B := T6.setTop (mkF m 18 #[.val (.ref a1), .val (.int (0 : Int32)), .val (.int p2), .val (.int p2), .val (.ref b6)] [(.ref b6), (.int (0 : Int32)), (.ref a1)])) (fun t k => XS.aload X6.here hx rfl (hb hby d34_16) rfl rfl k) ?_
  refine own_pre (B := T6.setTop (mkF m 19 #[.val (.ref a1), .val (.int (0 : Int32)), .val (.int p2), .val (.int p2), .val (.ref b6)] [(.int (0 : Int32)), (.ref b6), (.int (0 : Int32)), (.ref a1)])) (fun t k => XS.iconst X6.here hx rfl (hb hby d34_18) k) ?_
  refine own_pre (B := T6.setTop (mkF m 20 #[.val (.ref a1), .val (.int (0 : Int32)), .val (.int p2), .val (.int p2), .val (.ref b6)] [(.ref a1), (.int (0 : Int32)), (.ref b6), (.int (0 : Int32)), (.ref a1)])) (fun t k => XS.aloadN X6.here hx rfl (hb hby d34_19) rfl rfl k) ?_
  have c8 := (Arv.ext V_a1 E6)
  obtain ⟨cl9, Ar9, -, S9, N9v, -, -⟩ := id c8
  refine own_pre (B := T6.setTop (mkF m 21 #[.val (.ref a1), .val (.int (0 : Int32)), .val (.int p2), .val (.int p2), .val (.ref b6)] [(.int nn), (.int (0 : Int32)), (.ref b6), (.int (0 : Int32)), (.ref a1)])) (fun t k => X6.arraylength hx (by rw [e6]; exact Ar9.1) (State.isArrayOf_alike hZ.alike Ar9.2.1) (g := (mkF m 20 #[.val (.ref a1), .val (.int (0 : Int32)), .val (.int p2), .val (.int p2), .val (.ref b6)] [(.ref a1), (.int (0 : Int32)), (.ref b6), (.int (0 : Int32)), (.ref a1)])) rfl rfl (hb hby d34_20) t (by rw [len_of S9 N9v]; exact k)) ?_
  refine own_pre (B := T6.setTop (mkF m 22 #[.val (.ref a1), .val (.int (0 : Int32)), .val (.int p2), .val (.int p2), .val (.ref b6)] [(.int (0 : Int32)), (.int nn), (.int (0 : Int32)), (.ref b6), (.int (0 : Int32)), (.ref a1)])) (fun t k => XS.iloadN X6.here hx rfl (hb hby d34_21) rfl k) ?_
  refine own_pre (B := T6.setTop (mkF m 23 #[.val (.ref a1), .val (.int (0 : Int32)), .val (.int p2), .val (.int p2), .val (.ref b6)] [(.int nn), (.int (0 : Int32)), (.ref b6), (.int (0 : Int32)), (.ref a1)])) (fun t k => XS.isub X6.here hx rfl (hb hby d34_22) rfl (by rw [Int32.sub_zero]; exact k)) ?_
  refine own_pre (B := T6.setTop (mkF m 24 #[.val (.ref a1), .val (.int (0 : Int32)), .val (.int p2), .val (.int p2), .val (.ref b6)] [(.int p2), (.int nn), (.int (0 : Int32)), (.ref b6), (.int (0 : Int32)), (.ref a1)])) (fun t k => XS.iloadN X6.here hx rfl (hb hby d34_23) rfl k) ?_
  have sz10 : n0 ≤ h6.size := (Nat.le_trans Z0 E6.1)
  obtain ⟨_, _, ⟨T11, L11, k11, n11⟩, -, X11, ⟨Lc11, hQ11, l11, y11, z11⟩, st11⟩ := Jvm.LawKit.callS X6 hx (y := (⟨"java/lang/Math", "min", "(II)I"⟩ : MethodName)) hown (mvT hZ (hw _ (ow 146 rfl))) (mvT hZ (hw _ (ow 147 rfl))) (mvT hZ (hw _ (ow 138 rfl))) (mvT hZ (hw _ (ow 148 rfl))) (by decide) (backOf (W := 4) (rm26 l Z a0 hw [] nn p2 h6 n0 sz10 ) hZ (hw _ (ow 148 rfl)) (hw _ (ow 138 rfl)) (by decide) (by decide)) (g := (mkF m 24 #[.val (.ref a1), .val (.int (0 : Int32)), .val (.int p2), .val (.int p2), .val (.ref b6)] [(.int p2), (.int nn), (.int (0 : Int32)), (.ref b6), (.int (0 : Int32)), (.ref a1)])) rfl (by rw [hml]; rfl) (argsL := [(.int nn), (.int p2)]) (rest := [(.int (0 : Int32)), (.ref b6), (.int (0 : Int32)), (.ref a1)]) (lenOf pd_1 rfl) rfl (by show 2 * 0 + _ ≤ _; exact Nat.le_of_eq rfl) (hb hby d34_24) (fun _ _ => ⟨rfl, e6, (by decide : 1 + 0 ≤ _), (by decide : 172 + 0 ≤ _)⟩)
  dsimp only [Pt.U, Pt.locs, Pt.cells, Pt.slots] at X11 l11 y11 z11 st11 hQ11
  subst l11 y11 z11
  obtain ⟨rfl, N11q, e11⟩ := hQ11
  have N11 := Fr.app Nh4 N11q
  obtain ⟨Lh12, Xh12, Nh12⟩ := own_hide X11 N11
  refine own_pre (B := T11.setTop (mkF m 27 #[.val (.ref a1), .val (.int (0 : Int32)), .val (.int p2), .val (.int p2), .val (.ref b6)] [(.int (own_f26 nn p2)), (.int (0 : Int32)), (.ref b6), (.int (0 : Int32)), (.ref a1)])) (fun t k => st11 t k) ?_
  have K13 : Keep h0 h6 [] := (Keep.ext K5 E6)
  obtain ⟨T14, h14, L14, xs14, X14, e14, N14, Kc14, V14, st14⟩ := own_cp Xh12 hx hZ hown (hw _ (ow 149 rfl)) (hw _ (ow 109 rfl)) (hw _ (ow 107 rfl)) (hw _ (ow 108 rfl)) e11 c8 V_b6 (by decide) (by decide) (own_min (own_nn0 V_a1) hp).1 (own_min (own_nn0 V_a1) hp).2.1 (own_min (own_nn0 V_a1) hp).2.2 Nh12 g_b6 (g := (mkF m 27 #[.val (.ref a1), .val (.int (0 : Int32)), .val (.int p2), .val (.int p2), .val (.ref b6)] [(.int (own_f26 nn p2)), (.int (0 : Int32)), (.ref b6), (.int (0 : Int32)), (.ref a1)])) rfl (by rw [hml]; rfl) rfl (hb hby d34_27) (by decide) (W := 0) (by show 2 * 0 + _ ≤ _; exact Nat.le_of_eq rfl) (by decide)
  refine own_pre (B := T14.setTop (mkF m 30 #[.val (.ref a1), .val (.int (0 : Int32)), .val (.int p2), .val (.int p2), .val (.ref b6)] [])) (fun t k => st14 t k) ?_
  refine own_pre (B := T14.setTop (mkF m 32 #[.val (.ref a1), .val (.int (0 : Int32)), .val (.int p2), .val (.int p2), .val (.ref b6)] [(.ref b6)])) (fun t k => XS.aload X14.here hx rfl (hb hby d34_30) rfl rfl k) ?_
  have K15 : Keep h0 h14 [] := (Keep.trans K13 Kc14 (allS (P := fun x => x ∈ [] ∨ h0.size ≤ x) (Or.inr s_b6) all0))
  have c16 := (Exa.keep Q6 Kc14)
  obtain ⟨fsr17, hrr17, hrunr17, hendedr17, hWr17, hsamer17⟩ := X14.leave (v := some (.ref b6)) (fun h => by rw [Bd.returns] at h; cases h)
  refine ⟨_, _, (retOut X14 hx (i := .areturn) Bd.returns rfl (Or.inr (Or.inr (Or.inr (Or.inr ⟨rfl, rfl, rfl⟩)))) (hb hby d34_32) hrr17), hrunr17, hendedr17, _, _, rfl, ?_, ⟨_, rfl⟩, hWr17, hsamer17.mono (by decide) (by decide)⟩
  show Q34 Z a1 p2 k_a1 xs nn h0 n0 _ T14.heap _
  rw [e14]
  exact ⟨b6, k6, xs14, rfl, N14, K15, g_b6, s_b6, c16, V14⟩
theorem pd_15 : parseMethodDescriptor "([BII)[B" = some ⟨[(.array .byte), .int, .int], some (.array .byte)⟩ := by decide +kernel
theorem d33_0 : decode jdk_65_method_132_code 0 = .ok (.iload_n 1, 1) := by decide +kernel
theorem d33_1 : decode jdk_65_method_132_code 1 = .ok (.ifCond .ne 9, 3) := by decide +kernel
theorem d33_4 : decode jdk_65_method_132_code 4 = .ok (.iload_n 2, 1) := by decide +kernel
theorem d33_5 : decode jdk_65_method_132_code 5 = .ok (.aload_n 0, 1) := by decide +kernel
theorem d33_6 : decode jdk_65_method_132_code 6 = .ok (.arraylength, 1) := by decide +kernel
theorem d33_7 : decode jdk_65_method_132_code 7 = .ok (.if_icmp .eq 10, 3) := by decide +kernel
theorem d33_10 : decode jdk_65_method_132_code 10 = .ok (.aload_n 0, 1) := by decide +kernel
theorem d33_11 : decode jdk_65_method_132_code 11 = .ok (.iload_n 1, 1) := by decide +kernel
theorem d33_12 : decode jdk_65_method_132_code 12 = .ok (.iload_n 2, 1) := by decide +kernel
theorem d33_13 : decode jdk_65_method_132_code 13 = .ok (.invokestatic 339, 3) := by decide +kernel
theorem d33_16 : decode jdk_65_method_132_code 16 = .ok (.areturn, 1) := by decide +kernel
theorem d33_17 : decode jdk_65_method_132_code 17 = .ok (.aload_n 0, 1) := by decide +kernel
theorem d33_18 : decode jdk_65_method_132_code 18 = .ok (.invokevirtual 310, 3) := by decide +kernel
theorem d33_21 : decode jdk_65_method_132_code 21 = .ok (.checkcast 311, 3) := by decide +kernel
theorem d33_24 : decode jdk_65_method_132_code 24 = .ok (.areturn, 1) := by decide +kernel
theorem pn_33 : plainName "java/util/Arrays" = true := by first | (simp [plainName, overriddenIn]; done) | decide +kernel
theorem ef_33 (m : MethodId) (x0 : Addr) (x2 : Int32) : entryFrame m #[(.ref x0), (.int (0 : Int32)), (.int x2)] 3 = mkF m 0 #[.val (.ref x0), .val (.int (0 : Int32)), .val (.int x2)] [] := by first | (simp [entryFrame, mkF, argsToLocals, Value.category]; done) | rfl
def Q33 (Z : State) (a1 : Addr) (p2 : Int32) (k_a1 : ClassId) (xs : List Value) (nn : Int32) (h0 : Heap) (n0 : Nat) (v : Option Value) (h : Heap) (L : List Loc) : Prop := ∃ (b : Addr) (k : ClassId) (x : List Value), v = some (.ref b) ∧ Fr n0 L ∧ Keep h0 h [] ∧ n0 ≤ b ∧ h0.size ≤ b ∧ Arv Z h b k .byte p2 x (.int (0 : Int32))
set_option maxRecDepth 65536 in
set_option maxHeartbeats 40000000 in
theorem rm33 (l : Launch) (Z : State) (a0 : Array Value) (hw : ∀ d ∈ tables_1, d.before a0 Z = true) (ws : List Jvm.Cond) (a1 : Addr) (p2 : Int32) (k_a1 : ClassId) (xs : List Value) (nn : Int32) (h0 : Heap) (n0 : Nat) (Z0 : n0 ≤ h0.size) (V_a1 : Arv Z h0 a1 k_a1 .byte nn xs (.int (0 : Int32))) (E_a1 : Exa Z h0 a1 "[B") (hp : ¬ p2 < (0 : Int32)) (hcap : p2.toNatClampNeg ≤ 172) :
    MetFree l (⟨"java/util/Arrays", "copyOfRange", "([BII)[B"⟩ : MethodName) (head1 (Jvm.Cond.code (⟨"java/util/Arrays", "copyOfRange", "([BII)[B"⟩ : MethodName) jdk_65_method_132_code 3 (some (.array .byte)) :: ws) ({ frames := 2, cells := 1, slots := 172, locals := 34 } : Room)) (fun a U => a = #[(.ref a1), (.int (0 : Int32)), (.int p2)] ∧ Z.Warmed39 U.vm ∧ U.heap = h0) (fun _ _ _ _ _ => True) (fun _ U o U' => ∃ v L, o = .returned v ∧ Q33 Z a1 p2 k_a1 xs nn h0 n0 v U'.heap L ∧ FrameEnd U o U' L ({ frames := 2, cells := 1, slots := 172, locals := 34 } : Room).cells ({ frames := 2, cells := 1, slots := 172, locals := 34 } : Room).slots) := by
  refine MetFree.of_bodySF (plainFor_of_name pn_33) hisR ?_
  intro p e s m args below meth c s₁ Bd hml0 hP hK
  obtain ⟨rfl, hZ, hh⟩ := hP
  have hx := Bd.exec
  have hby := Bd.bytes
  have hml : c.maxLocals = 3 := hml0
  have hown : s.vm.findClass "java/util/Arrays" = some m.cls := findClass_of_methodNamed Bd.named
  have hnm := (name_of_methodNamed Bd.named Bd.method).1
  have X0 : Stand p l e ({ frames := 2, cells := 1, slots := 172, locals := 34 } : Room) s m #[(.ref a1), (.int (0 : Int32)), (.int p2)] below meth c s₁ [] 0 0 := Stand.of_body Bd
  have e0 : s₁.heap = h0 := by rw [← hh, Bd.state]; rfl
  have N0 := Fr.nil n0
  apply own_in
  refine own_pre (B := s₁.setTop (mkF m 0 #[.val (.ref a1), .val (.int (0 : Int32)), .val (.int p2)] [])) (fun t k => castTop (ef_33 m a1 p2) k) ?_
  refine own_pre (B := s₁.setTop (mkF m 1 #[.val (.ref a1), .val (.int (0 : Int32)), .val (.int p2)] [(.int (0 : Int32))])) (fun t k => XS.iloadN X0.here hx rfl (hb hby d33_0) rfl k) ?_
  refine own_pre (B := s₁.setTop (mkF m 4 #[.val (.ref a1), .val (.int (0 : Int32)), .val (.int p2)] [])) (fun t k => XS.ifNo X0.here hx rfl (hb hby d33_1) rfl ((if0 _ _).trans (teq (rfl : (0 : Int32) = (0 : Int32))).2) k) ?_
  refine own_pre (B := s₁.setTop (mkF m 5 #[.val (.ref a1), .val (.int (0 : Int32)), .val (.int p2)] [(.int p2)])) (fun t k => XS.iloadN X0.here hx rfl (hb hby d33_4) rfl k) ?_
  refine own_pre (B := s₁.setTop (mkF m 6 #[.val (.ref a1), .val (.int (0 : Int32)), .val (.int p2)] [(.ref a1), (.int p2)])) (fun t k => XS.aloadN X0.here hx rfl (hb hby d33_5) rfl rfl k) ?_
  obtain ⟨cl3, Ar3, -, S3, N3v, -, -⟩ := id V_a1
  refine own_pre (B := s₁.setTop (mkF m 7 #[.val (.ref a1), .val (.int (0 : Int32)), .val (.int p2)] [(.int nn), (.int p2)])) (fun t k => X0.arraylength hx (by rw [e0]; exact Ar3.1) (State.isArrayOf_alike hZ.alike Ar3.2.1) (g := (mkF m 6 #[.val (.ref a1), .val (.int (0 : Int32)), .val (.int p2)] [(.ref a1), (.int p2)])) rfl rfl (hb hby d33_6) t (by rw [len_of S3 N3v]; exact k)) ?_
  by_cases hc7_4 : p2 = nn
  · refine own_pre (B := s₁.setTop (mkF m 17 #[.val (.ref a1), .val (.int (0 : Int32)), .val (.int p2)] [])) (fun t k => XS.icmpYes X0.here hx rfl (pc0 := 7) (pc' := 17) rfl (hb hby d33_7) rfl (teq hc7_4).1 (by decide) (by decide) k) ?_
    refine own_pre (B := s₁.setTop (mkF m 18 #[.val (.ref a1), .val (.int (0 : Int32)), .val (.int p2)] [(.ref a1)])) (fun t k => XS.aloadN X0.here hx rfl (hb hby d33_17) rfl rfl k) ?_
    have K5 : Keep h0 h0 [] := (Keep.refl h0 [])
    obtain ⟨T6, h6, k6, X6, e6, E6, V6, Q6, st6⟩ := own_cl X0 hx hZ hown (hw _ (ow 235 rfl)) (hw _ (ow 236 rfl)) (hw _ (ow 240 rfl)) (hw _ (ow 238 rfl)) (hw _ (ow 239 rfl)) (hw _ (ow 241 rfl)) e0 V_a1 E_a1 (g := (mkF m 18 #[.val (.ref a1), .val (.int (0 : Int32)), .val (.int p2)] [(.ref a1)])) rfl (by rw [hml]; rfl) rfl (hb hby d33_18) (by decide) (W := 0) (cap := 172) (by show 2 * 0 + _ ≤ _; exact Nat.le_of_eq rfl) (by decide) (by rw [← hc7_4]; exact hcap) (by decide) (by decide)
    obtain ⟨b6, g6⟩ : ∃ z, z = h0.size := ⟨_, rfl⟩
    rw [← g6] at V6 Q6 st6
    have g_b6 : n0 ≤ b6 := Nat.le_trans Z0 (Nat.le_of_eq g6.symm)
    have s_b6 : h0.size ≤ b6 := Nat.le_trans K5.1 (Nat.le_of_eq g6.symm)
    have ne7 : a1 ≠ b6 := Nat.ne_of_lt (Nat.lt_of_lt_of_le (Exa.lt E_a1) (Nat.le_of_eq g6.symm))
    refine own_pre (B := T6.setTop (mkF m 21 #[.val (.ref a1), .val (.int (0 : Int32)), .val (.int p2)] [(.ref b6)])) (fun t k => st6 t k) ?_
    obtain ⟨T8, X8, e8, st8⟩ := castY X6 hx hZ hown (hw _ (ow 242 rfl)) e6 (Ins.self Q6) (g := (mkF m 21 #[.val (.ref a1), .val (.int (0 : Int32)), .val (.int p2)] [(.ref b6)])) rfl rfl (hb hby d33_21)
    refine own_pre (B := T8.setTop (mkF m 24 #[.val (.ref a1), .val (.int (0 : Int32)), .val (.int p2)] [(.ref b6)])) (fun t k => st8 t k) ?_
    have K9 : Keep h0 h6 [] := (Keep.ext K5 E6)
    obtain ⟨fsr10, hrr10, hrunr10, hendedr10, hWr10, hsamer10⟩ := X8.leave (v := some (.ref b6)) (fun h => by rw [Bd.returns] at h; cases h)
    refine ⟨_, _, (retOut X8 hx (i := .areturn) Bd.returns rfl (Or.inr (Or.inr (Or.inr (Or.inr ⟨rfl, rfl, rfl⟩)))) (hb hby d33_24) hrr10), hrunr10, hendedr10, _, _, rfl, ?_, ⟨_, rfl⟩, hWr10, hsamer10.mono (by decide) (by decide)⟩
    show Q33 Z a1 p2 k_a1 xs nn h0 n0 _ T8.heap _
    rw [e8]
    exact ⟨b6, k6, xs, rfl, N0, K9, g_b6, s_b6, (by rw [hc7_4]; exact V6)⟩
  · refine own_pre (B := s₁.setTop (mkF m 10 #[.val (.ref a1), .val (.int (0 : Int32)), .val (.int p2)] [])) (fun t k => XS.icmpNo X0.here hx rfl (hb hby d33_7) rfl (feq hc7_4).1 k) ?_
    refine own_pre (B := s₁.setTop (mkF m 11 #[.val (.ref a1), .val (.int (0 : Int32)), .val (.int p2)] [(.ref a1)])) (fun t k => XS.aloadN X0.here hx rfl (hb hby d33_10) rfl rfl k) ?_
    refine own_pre (B := s₁.setTop (mkF m 12 #[.val (.ref a1), .val (.int (0 : Int32)), .val (.int p2)] [(.int (0 : Int32)), (.ref a1)])) (fun t k => XS.iloadN X0.here hx rfl (hb hby d33_11) rfl k) ?_
    refine own_pre (B := s₁.setTop (mkF m 13 #[.val (.ref a1), .val (.int (0 : Int32)), .val (.int p2)] [(.int p2), (.int (0 : Int32)), (.ref a1)])) (fun t k => XS.iloadN X0.here hx rfl (hb hby d33_12) rfl k) ?_
    obtain ⟨_, _, ⟨T11, L11, k11, n11⟩, -, X11, ⟨Lc11, hQ11, l11, y11, z11⟩, st11⟩ := Jvm.LawKit.callS X0 hx (y := (⟨"java/util/Arrays", "copyOfRangeByte", "([BII)[B"⟩ : MethodName)) hown (mvT hZ (hw _ (ow 183 rfl))) (mvT hZ (hw _ (ow 184 rfl))) (mvT hZ (hw _ (ow 144 rfl))) (mvT hZ (hw _ (ow 185 rfl))) (by decide) (backOf (W := 0) (rm34 l Z a0 hw [] a1 p2 k_a1 xs nn h0 n0 Z0 V_a1 hp hcap) hZ (hw _ (ow 185 rfl)) (hw _ (ow 144 rfl)) (by decide) (by decide)) (g := (mkF m 13 #[.val (.ref a1), .val (.int (0 : Int32)), .val (.int p2)] [(.int p2), (.int (0 : Int32)), (.ref a1)])) rfl (by rw [hml]; rfl) (argsL := [(.ref a1), (.int (0 : Int32)), (.int p2)]) (rest := []) (lenOf pd_15 rfl) rfl (by show 2 * 0 + _ ≤ _; exact Nat.le_of_eq rfl) (hb hby d33_13) (fun _ _ => ⟨rfl, e0, (by decide : 0 + 1 ≤ _), (by decide : 0 + 172 ≤ _)⟩)
    dsimp only [Pt.U, Pt.locs, Pt.cells, Pt.slots] at X11 l11 y11 z11 st11 hQ11
    subst l11 y11 z11
    obtain ⟨b6_11, k6_11, ub0_11, rfl, N11q, K11, q11_0, q11_1, q11_2, q11_3⟩ := hQ11
    have N11 := Fr.app N0 N11q
    have K12 : Keep h0 h0 [] := (Keep.refl h0 [])
    have ne13 : a1 ≠ b6_11 := Nat.ne_of_lt (Nat.lt_of_lt_of_le (Exa.lt E_a1) q11_1)
    have s_b6_11 : h0.size ≤ b6_11 := Nat.le_trans K12.1 q11_1
    obtain ⟨Lh14, Xh14, Nh14⟩ := own_hide X11 N11
    refine own_pre (B := T11.setTop (mkF m 16 #[.val (.ref a1), .val (.int (0 : Int32)), .val (.int p2)] [(.ref b6_11)])) (fun t k => st11 t k) ?_
    have K15 : Keep h0 T11.heap [] := (Keep.trans K12 K11 all0)
    obtain ⟨fsr16, hrr16, hrunr16, hendedr16, hWr16, hsamer16⟩ := Xh14.leave (v := some (.ref b6_11)) (fun h => by rw [Bd.returns] at h; cases h)
    refine ⟨_, _, (retOut Xh14 hx (i := .areturn) Bd.returns rfl (Or.inr (Or.inr (Or.inr (Or.inr ⟨rfl, rfl, rfl⟩)))) (hb hby d33_16) hrr16), hrunr16, hendedr16, _, _, rfl, ?_, ⟨_, rfl⟩, hWr16, hsamer16.mono (by decide) (by decide)⟩
    show Q33 Z a1 p2 k_a1 xs nn h0 n0 _ T11.heap _
    exact ⟨b6_11, k6_11, ub0_11, rfl, Nh14, K15, q11_0, s_b6_11, q11_3⟩
def own_L (c N : Int32) : Prop := 0 ≤ c.toInt ∧ c.toInt ≤ N.toInt ∧ N.toInt ≤ 172
theorem own_L0 {c N : Int32} (h : own_L c N) : ¬ c < (0 : Int32) := by
  rw [Int32.lt_iff_toInt_lt, show (0 : Int32).toInt = 0 by decide]; have := h.1; omega
theorem own_L1 {c N : Int32} (h : own_L c N) : c.toNatClampNeg ≤ 172 := by
  obtain ⟨h1, h2, h3⟩ := h
  simp only [Int32.toNatClampNeg]; omega
theorem d30_0 : decode jdk_68_method_64_code 0 = .ok (.aload_n 0, 1) := by decide +kernel
theorem d30_1 : decode jdk_68_method_64_code 1 = .ok (.getfield 15, 3) := by decide +kernel
theorem d30_4 : decode jdk_68_method_64_code 4 = .ok (.areturn, 1) := by decide +kernel
theorem pn_30 : plainName "java/lang/AbstractStringBuilder" = true := by first | (simp [plainName, overriddenIn]; done) | decide +kernel
theorem ef_30 (m : MethodId) (x0 : Addr) : entryFrame m #[(.ref x0)] 1 = mkF m 0 #[.val (.ref x0)] [] := by first | (simp [entryFrame, mkF, argsToLocals, Value.category]; done) | rfl
def Q30 (Z : State) (a1 : Addr) (w_value_a1 : Addr) (h0 : Heap) (n0 : Nat) (v : Option Value) (h : Heap) (L : List Loc) : Prop := v = some (.ref w_value_a1) ∧ Fr n0 L ∧ h = h0
set_option maxRecDepth 65536 in
set_option maxHeartbeats 40000000 in
theorem rm30 (l : Launch) (Z : State) (a0 : Array Value) (hw : ∀ d ∈ tables_1, d.before a0 Z = true) (ws : List Jvm.Cond) (a1 : Addr) (w_value_a1 : Addr) (h0 : Heap) (n0 : Nat) (Z0 : n0 ≤ h0.size) (F_value_a1 : Fld Z h0 a1 "java/lang/AbstractStringBuilder" "value" "[B" (.ref w_value_a1)) :
    MetFree l (⟨"java/lang/AbstractStringBuilder", "getValue", "()[B"⟩ : MethodName) (head1 (Jvm.Cond.code (⟨"java/lang/AbstractStringBuilder", "getValue", "()[B"⟩ : MethodName) jdk_68_method_64_code 1 (some (.array .byte)) :: ws) ({ frames := 0, cells := 0, slots := 0, locals := 0 } : Room)) (fun a U => a = #[(.ref a1)] ∧ Z.Warmed39 U.vm ∧ U.heap = h0) (fun _ _ _ _ _ => True) (fun _ U o U' => ∃ v L, o = .returned v ∧ Q30 Z a1 w_value_a1 h0 n0 v U'.heap L ∧ FrameEnd U o U' L ({ frames := 0, cells := 0, slots := 0, locals := 0 } : Room).cells ({ frames := 0, cells := 0, slots := 0, locals := 0 } : Room).slots) := by
  refine MetFree.of_bodySF (plainFor_of_name pn_30) hisR ?_
  intro p e s m args below meth c s₁ Bd hml0 hP hK
  obtain ⟨rfl, hZ, hh⟩ := hP
  have hx := Bd.exec
  have hby := Bd.bytes
  have hml : c.maxLocals = 1 := hml0
  have hown : s.vm.findClass "java/lang/AbstractStringBuilder" = some m.cls := findClass_of_methodNamed Bd.named
  have hnm := (name_of_methodNamed Bd.named Bd.method).1
  have X0 : Stand p l e ({ frames := 0, cells := 0, slots := 0, locals := 0 } : Room) s m #[(.ref a1)] below meth c s₁ [] 0 0 := Stand.of_body Bd
  have e0 : s₁.heap = h0 := by rw [← hh, Bd.state]; rfl
  have N0 := Fr.nil n0
  apply own_in
  refine own_pre (B := s₁.setTop (mkF m 0 #[.val (.ref a1)] [])) (fun t k => castTop (ef_30 m a1) k) ?_
  refine own_pre (B := s₁.setTop (mkF m 1 #[.val (.ref a1)] [(.ref a1)])) (fun t k => XS.aloadN X0.here hx rfl (hb hby d30_0) rfl rfl k) ?_
  obtain ⟨T2, X2, e2, st2⟩ := getF X0 hx hZ hown (host := "") (Or.inl (hw _ (ow 30 rfl))) Via.refl e0 F_value_a1 (g := (mkF m 1 #[.val (.ref a1)] [(.ref a1)])) rfl rfl (hb hby d30_1)
  refine own_pre (B := T2.setTop (mkF m 4 #[.val (.ref a1)] [(.ref w_value_a1)])) (fun t k => st2 t k) ?_
  obtain ⟨fsr3, hrr3, hrunr3, hendedr3, hWr3, hsamer3⟩ := X2.leave (v := some (.ref w_value_a1)) (fun h => by rw [Bd.returns] at h; cases h)
  refine ⟨_, _, (retOut X2 hx (i := .areturn) Bd.returns rfl (Or.inr (Or.inr (Or.inr (Or.inr ⟨rfl, rfl, rfl⟩)))) (hb hby d30_4) hrr3), hrunr3, hendedr3, _, _, rfl, ?_, ⟨_, rfl⟩, hWr3, hsamer3.mono (by decide) (by decide)⟩
  show Q30 Z a1 w_value_a1 h0 n0 _ T2.heap _
  rw [e2]
  exact ⟨rfl, N0, rfl⟩
theorem d32_0 : decode jdk_68_method_6_code 0 = .ok (.aload_n 0, 1) := by decide +kernel
theorem d32_1 : decode jdk_68_method_6_code 1 = .ok (.getfield 79, 3) := by decide +kernel
theorem d32_4 : decode jdk_68_method_6_code 4 = .ok (.ireturn, 1) := by decide +kernel
theorem pn_32 : plainName "java/lang/AbstractStringBuilder" = true := by first | (simp [plainName, overriddenIn]; done) | decide +kernel
theorem ef_32 (m : MethodId) (x0 : Addr) : entryFrame m #[(.ref x0)] 1 = mkF m 0 #[.val (.ref x0)] [] := by first | (simp [entryFrame, mkF, argsToLocals, Value.category]; done) | rfl
def Q32 (Z : State) (a1 : Addr) (w_count_a1 : Int32) (h0 : Heap) (n0 : Nat) (v : Option Value) (h : Heap) (L : List Loc) : Prop := v = some (.int w_count_a1) ∧ Fr n0 L ∧ h = h0
set_option maxRecDepth 65536 in
set_option maxHeartbeats 40000000 in
theorem rm32 (l : Launch) (Z : State) (a0 : Array Value) (hw : ∀ d ∈ tables_1, d.before a0 Z = true) (ws : List Jvm.Cond) (a1 : Addr) (w_count_a1 : Int32) (h0 : Heap) (n0 : Nat) (Z0 : n0 ≤ h0.size) (E_a1 : Exa Z h0 a1 "java/lang/StringBuilder") (F_count_a1 : Fld Z h0 a1 "java/lang/AbstractStringBuilder" "count" "I" (.int w_count_a1)) :
    MetFree l (⟨"java/lang/AbstractStringBuilder", "length", "()I"⟩ : MethodName) (head1 (Jvm.Cond.code (⟨"java/lang/AbstractStringBuilder", "length", "()I"⟩ : MethodName) jdk_68_method_6_code 1 (some .int) :: ws) ({ frames := 0, cells := 0, slots := 0, locals := 0 } : Room)) (fun a U => a = #[(.ref a1)] ∧ Z.Warmed39 U.vm ∧ U.heap = h0) (fun _ _ _ _ _ => True) (fun _ U o U' => ∃ v L, o = .returned v ∧ Q32 Z a1 w_count_a1 h0 n0 v U'.heap L ∧ FrameEnd U o U' L ({ frames := 0, cells := 0, slots := 0, locals := 0 } : Room).cells ({ frames := 0, cells := 0, slots := 0, locals := 0 } : Room).slots) := by
  refine MetFree.of_bodySF (plainFor_of_name pn_32) hisR ?_
  intro p e s m args below meth c s₁ Bd hml0 hP hK
  obtain ⟨rfl, hZ, hh⟩ := hP
  have hx := Bd.exec
  have hby := Bd.bytes
  have hml : c.maxLocals = 1 := hml0
  have hown : s.vm.findClass "java/lang/AbstractStringBuilder" = some m.cls := findClass_of_methodNamed Bd.named
  have hnm := (name_of_methodNamed Bd.named Bd.method).1
  have X0 : Stand p l e ({ frames := 0, cells := 0, slots := 0, locals := 0 } : Room) s m #[(.ref a1)] below meth c s₁ [] 0 0 := Stand.of_body Bd
  have e0 : s₁.heap = h0 := by rw [← hh, Bd.state]; rfl
  have N0 := Fr.nil n0
  apply own_in
  refine own_pre (B := s₁.setTop (mkF m 0 #[.val (.ref a1)] [])) (fun t k => castTop (ef_32 m a1) k) ?_
  refine own_pre (B := s₁.setTop (mkF m 1 #[.val (.ref a1)] [(.ref a1)])) (fun t k => XS.aloadN X0.here hx rfl (hb hby d32_0) rfl rfl k) ?_
  obtain ⟨T2, X2, e2, st2⟩ := getF X0 hx hZ hown (host := "") (Or.inl (hw _ (ow 44 rfl))) Via.refl e0 F_count_a1 (g := (mkF m 1 #[.val (.ref a1)] [(.ref a1)])) rfl rfl (hb hby d32_1)
  refine own_pre (B := T2.setTop (mkF m 4 #[.val (.ref a1)] [(.int w_count_a1)])) (fun t k => st2 t k) ?_
  obtain ⟨fsr3, hrr3, hrunr3, hendedr3, hWr3, hsamer3⟩ := X2.leave (v := some (.int w_count_a1)) (fun h => by rw [Bd.returns] at h; cases h)
  refine ⟨_, _, (retI X2 hx Bd.returns (hb hby d32_4) hrr3), hrunr3, hendedr3, _, _, rfl, ?_, ⟨_, rfl⟩, hWr3, hsamer3.mono (by decide) (by decide)⟩
  show Q32 Z a1 w_count_a1 h0 n0 _ T2.heap _
  rw [e2]
  exact ⟨rfl, N0, rfl⟩
theorem d31_0 : decode jdk_67_method_93_code 0 = .ok (.aload_n 0, 1) := by decide +kernel
theorem d31_1 : decode jdk_67_method_93_code 1 = .ok (.invokespecial 343, 3) := by decide +kernel
theorem d31_4 : decode jdk_67_method_93_code 4 = .ok (.ireturn, 1) := by decide +kernel
theorem pn_31 : plainName "java/lang/StringBuilder" = true := by first | (simp [plainName, overriddenIn]; done) | decide +kernel
theorem ef_31 (m : MethodId) (x0 : Addr) : entryFrame m #[(.ref x0)] 1 = mkF m 0 #[.val (.ref x0)] [] := by first | (simp [entryFrame, mkF, argsToLocals, Value.category]; done) | rfl
def Q31 (Z : State) (a1 : Addr) (w_count_a1 : Int32) (h0 : Heap) (n0 : Nat) (v : Option Value) (h : Heap) (L : List Loc) : Prop := v = some (.int w_count_a1) ∧ Fr n0 L ∧ h = h0
set_option maxRecDepth 65536 in
set_option maxHeartbeats 40000000 in
theorem rm31 (l : Launch) (Z : State) (a0 : Array Value) (hw : ∀ d ∈ tables_1, d.before a0 Z = true) (ws : List Jvm.Cond) (a1 : Addr) (w_count_a1 : Int32) (h0 : Heap) (n0 : Nat) (Z0 : n0 ≤ h0.size) (E_a1 : Exa Z h0 a1 "java/lang/StringBuilder") (F_count_a1 : Fld Z h0 a1 "java/lang/AbstractStringBuilder" "count" "I" (.int w_count_a1)) :
    MetFree l (⟨"java/lang/StringBuilder", "length", "()I"⟩ : MethodName) (head1 (Jvm.Cond.code (⟨"java/lang/StringBuilder", "length", "()I"⟩ : MethodName) jdk_67_method_93_code 1 (some .int) :: ws) ({ frames := 1, cells := 0, slots := 0, locals := 12 } : Room)) (fun a U => a = #[(.ref a1)] ∧ Z.Warmed39 U.vm ∧ U.heap = h0) (fun _ _ _ _ _ => True) (fun _ U o U' => ∃ v L, o = .returned v ∧ Q31 Z a1 w_count_a1 h0 n0 v U'.heap L ∧ FrameEnd U o U' L ({ frames := 1, cells := 0, slots := 0, locals := 12 } : Room).cells ({ frames := 1, cells := 0, slots := 0, locals := 12 } : Room).slots) := by
  refine MetFree.of_bodySF (plainFor_of_name pn_31) hisR ?_
  intro p e s m args below meth c s₁ Bd hml0 hP hK
  obtain ⟨rfl, hZ, hh⟩ := hP
  have hx := Bd.exec
  have hby := Bd.bytes
  have hml : c.maxLocals = 1 := hml0
  have hown : s.vm.findClass "java/lang/StringBuilder" = some m.cls := findClass_of_methodNamed Bd.named
  have hnm := (name_of_methodNamed Bd.named Bd.method).1
  have X0 : Stand p l e ({ frames := 1, cells := 0, slots := 0, locals := 12 } : Room) s m #[(.ref a1)] below meth c s₁ [] 0 0 := Stand.of_body Bd
  have e0 : s₁.heap = h0 := by rw [← hh, Bd.state]; rfl
  have N0 := Fr.nil n0
  apply own_in
  refine own_pre (B := s₁.setTop (mkF m 0 #[.val (.ref a1)] [])) (fun t k => castTop (ef_31 m a1) k) ?_
  refine own_pre (B := s₁.setTop (mkF m 1 #[.val (.ref a1)] [(.ref a1)])) (fun t k => XS.aloadN X0.here hx rfl (hb hby d31_0) rfl rfl k) ?_
  obtain ⟨_, _, ⟨T2, L2, k2, n2⟩, -, X2, ⟨Lc2, hQ2, l2, y2, z2⟩, st2⟩ := superBack X0 hx hZ (y := (⟨"java/lang/AbstractStringBuilder", "length", "()I"⟩ : MethodName)) hown (hw _ (ow 177 rfl)) (own_same (hw _ (ow 173 rfl)) (own_nf (hw _ (ow 54 rfl)) (hw _ (ow 52 rfl)) rfl) (by decide)) (hw _ (ow 173 rfl)) (hw _ (ow 41 rfl)) (by decide) (backOf (W := 0) (rm32 l Z a0 hw [] a1 w_count_a1 h0 n0 Z0 E_a1 F_count_a1) hZ (hw _ (ow 178 rfl)) (hw _ (ow 24 rfl)) (by decide) (by decide)) e0 (Ins.self E_a1) (g := (mkF m 1 #[.val (.ref a1)] [(.ref a1)])) rfl (by rw [hml]; rfl) (hw _ (ow 178 rfl)) (argsL := []) (rest := []) (lenOf pd_7 rfl) rfl (by show 2 * 0 + _ ≤ _; exact Nat.le_of_eq rfl) (hb hby d31_1) (fun _ _ => ⟨rfl, e0, (by decide : 0 + 0 ≤ _), (by decide : 0 + 0 ≤ _)⟩)
  dsimp only [Pt.U, Pt.locs, Pt.cells, Pt.slots] at X2 l2 y2 z2 st2 hQ2
  subst l2 y2 z2
  obtain ⟨rfl, N2q, e2⟩ := hQ2
  have N2 := Fr.app N0 N2q
  obtain ⟨Lh3, Xh3, Nh3⟩ := own_hide X2 N2
  refine own_pre (B := T2.setTop (mkF m 4 #[.val (.ref a1)] [(.int w_count_a1)])) (fun t k => st2.trans k) ?_
  obtain ⟨fsr4, hrr4, hrunr4, hendedr4, hWr4, hsamer4⟩ := Xh3.leave (v := some (.int w_count_a1)) (fun h => by rw [Bd.returns] at h; cases h)
  refine ⟨_, _, (retI Xh3 hx Bd.returns (hb hby d31_4) hrr4), hrunr4, hendedr4, _, _, rfl, ?_, ⟨_, rfl⟩, hWr4, hsamer4.mono (by decide) (by decide)⟩
  show Q31 Z a1 w_count_a1 h0 n0 _ T2.heap _
  rw [e2]
  exact ⟨rfl, Nh3, rfl⟩
theorem pd_16 : parseMethodDescriptor "()[B" = some ⟨[], some (.array .byte)⟩ := by decide +kernel
theorem d29_0 : decode jdk_42_method_150_code 0 = .ok (.aload_n 0, 1) := by decide +kernel
theorem d29_1 : decode jdk_42_method_150_code 1 = .ok (.invokespecial 1, 3) := by decide +kernel
theorem d29_4 : decode jdk_42_method_150_code 4 = .ok (.aload_n 1, 1) := by decide +kernel
theorem d29_5 : decode jdk_42_method_150_code 5 = .ok (.invokevirtual 552, 3) := by decide +kernel
theorem d29_8 : decode jdk_42_method_150_code 8 = .ok (.astore_n 3, 1) := by decide +kernel
theorem d29_9 : decode jdk_42_method_150_code 9 = .ok (.aload_n 1, 1) := by decide +kernel
theorem d29_10 : decode jdk_42_method_150_code 10 = .ok (.invokevirtual 549, 3) := by decide +kernel
theorem d29_13 : decode jdk_42_method_150_code 13 = .ok (.istore 4, 2) := by decide +kernel
theorem d29_15 : decode jdk_42_method_150_code 15 = .ok (.aload_n 1, 1) := by decide +kernel
theorem d29_16 : decode jdk_42_method_150_code 16 = .ok (.invokevirtual 1047, 3) := by decide +kernel
theorem d29_19 : decode jdk_42_method_150_code 19 = .ok (.ifCond .eq 22, 3) := by decide +kernel
theorem d29_22 : decode jdk_42_method_150_code 22 = .ok (.aload_n 0, 1) := by decide +kernel
theorem d29_23 : decode jdk_42_method_150_code 23 = .ok (.iconst 0, 1) := by decide +kernel
theorem d29_24 : decode jdk_42_method_150_code 24 = .ok (.putfield 15, 3) := by decide +kernel
theorem d29_27 : decode jdk_42_method_150_code 27 = .ok (.aload_n 0, 1) := by decide +kernel
theorem d29_28 : decode jdk_42_method_150_code 28 = .ok (.aload_n 3, 1) := by decide +kernel
theorem d29_29 : decode jdk_42_method_150_code 29 = .ok (.iconst 0, 1) := by decide +kernel
theorem d29_30 : decode jdk_42_method_150_code 30 = .ok (.iload 4, 2) := by decide +kernel
theorem d29_32 : decode jdk_42_method_150_code 32 = .ok (.invokestatic 54, 3) := by decide +kernel
theorem d29_35 : decode jdk_42_method_150_code 35 = .ok (.putfield 9, 3) := by decide +kernel
theorem d29_38 : decode jdk_42_method_150_code 38 = .ok (.goto 59, 3) := by decide +kernel
theorem d29_97 : decode jdk_42_method_150_code 97 = .ok (.return_, 1) := by decide +kernel
theorem pn_29 : plainName "java/lang/String" = true := by first | (simp [plainName, overriddenIn]; done) | decide +kernel
theorem ef_29 (m : MethodId) (x0 : Addr) (x1 : Addr) : entryFrame m #[(.ref x0), (.ref x1), .null] 5 = mkF m 0 #[.val (.ref x0), .val (.ref x1), .val .null, .unset, .unset] [] := by first | (simp [entryFrame, mkF, argsToLocals, Value.category]; done) | rfl
def Q29 (Z : State) (a1 : Addr) (a2 : Addr) (cs : Int32) (w_value_a2 : Addr) (k_w_value_a2 : ClassId) (xs : List Value) (NN : Int32) (w_count_a2 : Int32) (u_coder_a1 : Value) (u_value_a1 : Value) (h0 : Heap) (n0 : Nat) (v : Option Value) (h : Heap) (L : List Loc) : Prop := ∃ (b_16 : Addr) (k_16 : ClassId) (ub0 : List Value), v = none ∧ Fr n0 L ∧ Keep h0 h [a1] ∧ Exa Z h a1 "java/lang/String" ∧ Fld Z h a1 "java/lang/String" "coder" "B" (.int (0 : Int32)) ∧ Fld Z h a1 "java/lang/String" "value" "[B" (.ref b_16) ∧ n0 ≤ b_16 ∧ h0.size ≤ b_16 ∧ Arv Z h b_16 k_16 .byte w_count_a2 ub0 (.int (0 : Int32))
set_option maxRecDepth 65536 in
set_option maxHeartbeats 40000000 in
theorem rm29 (l : Launch) (Z : State) (a0 : Array Value) (hw : ∀ d ∈ tables_1, d.before a0 Z = true) (ws : List Jvm.Cond) (a1 : Addr) (a2 : Addr) (cs : Int32) (w_value_a2 : Addr) (k_w_value_a2 : ClassId) (xs : List Value) (NN : Int32) (w_count_a2 : Int32) (u_coder_a1 : Value) (u_value_a1 : Value) (h0 : Heap) (n0 : Nat) (Z0 : n0 ≤ h0.size) (E_a1 : Exa Z h0 a1 "java/lang/String") (O0 : Old Z n0 h0) (SCS : Sta Z Z.heap "java/lang/String" "COMPACT_STRINGS" "Z" (.int cs)) (hcs : ¬ cs = (0 : Int32)) (E_a2 : Exa Z h0 a2 "java/lang/StringBuilder") (F_value_a2 : Fld Z h0 a2 "java/lang/AbstractStringBuilder" "value" "[B" (.ref w_value_a2)) (F_coder_a2 : Fld Z h0 a2 "java/lang/AbstractStringBuilder" "coder" "B" (.int (0 : Int32))) (V_w_value_a2 : Arv Z h0 w_value_a2 k_w_value_a2 .byte NN xs (.int (0 : Int32))) (E_w_value_a2 : Exa Z h0 w_value_a2 "[B") (F_count_a2 : Fld Z h0 a2 "java/lang/AbstractStringBuilder" "count" "I" (.int w_count_a2)) (hL : own_L w_count_a2 NN) (ne_a2_a1 : a2 ≠ a1) (ne_w_value_a2_a1 : w_value_a2 ≠ a1) (F_coder_a1 : Fld Z h0 a1 "java/lang/String" "coder" "B" u_coder_a1) (g_a1 : n0 ≤ a1) (F_value_a1 : Fld Z h0 a1 "java/lang/String" "value" "[B" u_value_a1) :
    MetFree l (⟨"java/lang/String", "<init>", "(Ljava/lang/AbstractStringBuilder;Ljava/lang/Void;)V"⟩ : MethodName) (head1 (Jvm.Cond.code (⟨"java/lang/String", "<init>", "(Ljava/lang/AbstractStringBuilder;Ljava/lang/Void;)V"⟩ : MethodName) jdk_42_method_150_code 5 none :: ws) ({ frames := 3, cells := 1, slots := 172, locals := 49 } : Room)) (fun a U => a = #[(.ref a1), (.ref a2), .null] ∧ Z.Warmed39 U.vm ∧ U.heap = h0) (fun _ _ _ _ _ => True) (fun _ U o U' => ∃ v L, o = .returned v ∧ Q29 Z a1 a2 cs w_value_a2 k_w_value_a2 xs NN w_count_a2 u_coder_a1 u_value_a1 h0 n0 v U'.heap L ∧ FrameEnd U o U' L ({ frames := 3, cells := 1, slots := 172, locals := 49 } : Room).cells ({ frames := 3, cells := 1, slots := 172, locals := 49 } : Room).slots) := by
  refine MetFree.of_bodySF (plainFor_of_name pn_29) hisR ?_
  intro p e s m args below meth c s₁ Bd hml0 hP hK
  obtain ⟨rfl, hZ, hh⟩ := hP
  have hx := Bd.exec
  have hby := Bd.bytes
  have hml : c.maxLocals = 5 := hml0
  have hown : s.vm.findClass "java/lang/String" = some m.cls := findClass_of_methodNamed Bd.named
  have hnm := (name_of_methodNamed Bd.named Bd.method).1
  have X0 : Stand p l e ({ frames := 3, cells := 1, slots := 172, locals := 49 } : Room) s m #[(.ref a1), (.ref a2), .null] below meth c s₁ [] 0 0 := Stand.of_body Bd
  have e0 : s₁.heap = h0 := by rw [← hh, Bd.state]; rfl
  have N0 := Fr.nil n0
  apply own_in
  refine own_pre (B := s₁.setTop (mkF m 0 #[.val (.ref a1), .val (.ref a2), .val .null, .unset, .unset] [])) (fun t k => castTop (ef_29 m a1 a2) k) ?_
  refine own_pre (B := s₁.setTop (mkF m 1 #[.val (.ref a1), .val (.ref a2), .val .null, .unset, .unset] [(.ref a1)])) (fun t k => XS.aloadN X0.here hx rfl (hb hby d29_0) rfl rfl k) ?_
  obtain ⟨T3, X3, e3, st3⟩ := initO X0 hx hZ hown (hw _ (ow 165 rfl)) (hw _ (ow 27 rfl)) (hw _ (ow 28 rfl)) e0 (g := (mkF m 1 #[.val (.ref a1), .val (.ref a2), .val .null, .unset, .unset] [(.ref a1)])) rfl (by rw [hml]; rfl) rfl (hb hby d29_1) (by decide) (W := 0) (by show 2 * 0 + _ ≤ _; exact Nat.le_of_eq rfl) (by decide)
  refine own_pre (B := T3.setTop (mkF m 4 #[.val (.ref a1), .val (.ref a2), .val .null, .unset, .unset] [])) (fun t k => st3 t k) ?_
  refine own_pre (B := T3.setTop (mkF m 5 #[.val (.ref a1), .val (.ref a2), .val .null, .unset, .unset] [(.ref a2)])) (fun t k => XS.aloadN X3.here hx rfl (hb hby d29_4) rfl rfl k) ?_
  obtain ⟨cq4, kq4, q4a, q4b, q4c⟩ := isOf hZ e3 E_a2
  obtain ⟨_, _, ⟨T4, L4, k4, n4⟩, -, X4, ⟨Lc4, hQ4, l4, y4, z4⟩, st4⟩ := X3.virtualBack hx (y := (⟨"java/lang/AbstractStringBuilder", "getValue", "()[B"⟩ : MethodName)) (z := (⟨"java/lang/AbstractStringBuilder", "getValue", "()[B"⟩ : MethodName)) hown (mvT hZ (hw _ (ow 166 rfl))) (mvT hZ (hw _ (ow 167 rfl))) (notFace_of_selects (args := #[]) (mvT hZ (hw _ (ow 169 rfl)))) (mvT hZ (hw _ (ow 169 rfl))) (mvT hZ (hw _ (ow 168 rfl))) (by decide) (backOf (W := 0) (rm30 l Z a0 hw [] a2 w_value_a2 h0 n0 Z0 F_value_a2) hZ (hw _ (ow 170 rfl)) (hw _ (ow 24 rfl)) (by decide) (by decide)) q4a q4c (g := (mkF m 5 #[.val (.ref a1), .val (.ref a2), .val .null, .unset, .unset] [(.ref a2)])) rfl (by rw [hml]; rfl) (Steps.refl _) (argsL := []) (rest := []) (lenOf pd_16 rfl) rfl (by show 2 * 0 + _ ≤ _; exact Nat.le_of_eq rfl) (hb hby d29_5) (fun _ _ => ⟨rfl, e3, (by decide : 0 + 0 ≤ _), (by decide : 0 + 0 ≤ _)⟩)
  dsimp only [Pt.U, Pt.locs, Pt.cells, Pt.slots] at X4 l4 y4 z4 st4 hQ4
  subst l4 y4 z4
  obtain ⟨rfl, N4q, e4⟩ := hQ4
  have N4 := Fr.app N0 N4q
  obtain ⟨Lh5, Xh5, Nh5⟩ := own_hide X4 N4
  refine own_pre (B := T4.setTop (mkF m 8 #[.val (.ref a1), .val (.ref a2), .val .null, .unset, .unset] [(.ref w_value_a2)])) (fun t k => st4.trans k) ?_
  refine own_pre (B := T4.setTop (mkF m 9 #[.val (.ref a1), .val (.ref a2), .val .null, .val (.ref w_value_a2), .unset] [])) (fun t k => XS.astoreN Xh5.here hx rfl (hb hby d29_8) rfl rfl (l' := #[.val (.ref a1), .val (.ref a2), .val .null, .val (.ref w_value_a2), .unset]) rfl k) ?_
  refine own_pre (B := T4.setTop (mkF m 10 #[.val (.ref a1), .val (.ref a2), .val .null, .val (.ref w_value_a2), .unset] [(.ref a2)])) (fun t k => XS.aloadN Xh5.here hx rfl (hb hby d29_9) rfl rfl k) ?_
  obtain ⟨cq6, kq6, q6a, q6b, q6c⟩ := isOf hZ e4 E_a2
  obtain ⟨_, _, ⟨T6, L6, k6, n6⟩, -, X6, ⟨Lc6, hQ6, l6, y6, z6⟩, st6⟩ := Xh5.virtualBack hx (y := (⟨"java/lang/AbstractStringBuilder", "length", "()I"⟩ : MethodName)) (z := (⟨"java/lang/StringBuilder", "length", "()I"⟩ : MethodName)) hown (mvT hZ (hw _ (ow 171 rfl))) (mvT hZ (hw _ (ow 172 rfl))) (own_nf (a0 := #[]) (mvT hZ (hw _ (ow 54 rfl))) (mvT hZ (hw _ (ow 52 rfl))) rfl) (mvT hZ (hw _ (ow 174 rfl))) (mvT hZ (hw _ (ow 175 rfl))) (by decide) (backOf (W := 0) (rm31 l Z a0 hw [] a2 w_count_a2 h0 n0 Z0 E_a2 F_count_a2) hZ (hw _ (ow 176 rfl)) (hw _ (ow 16 rfl)) (by decide) (by decide)) q6a q6c (g := (mkF m 10 #[.val (.ref a1), .val (.ref a2), .val .null, .val (.ref w_value_a2), .unset] [(.ref a2)])) rfl (by rw [hml]; rfl) (Steps.refl _) (argsL := []) (rest := []) (lenOf pd_7 rfl) rfl (by show 2 * 0 + _ ≤ _; exact Nat.le_of_eq rfl) (hb hby d29_10) (fun _ _ => ⟨rfl, e4, (by decide : 0 + 0 ≤ _), (by decide : 0 + 0 ≤ _)⟩)
  dsimp only [Pt.U, Pt.locs, Pt.cells, Pt.slots] at X6 l6 y6 z6 st6 hQ6
  subst l6 y6 z6
  obtain ⟨rfl, N6q, e6⟩ := hQ6
  have N6 := Fr.app Nh5 N6q
  obtain ⟨Lh7, Xh7, Nh7⟩ := own_hide X6 N6
  refine own_pre (B := T6.setTop (mkF m 13 #[.val (.ref a1), .val (.ref a2), .val .null, .val (.ref w_value_a2), .unset] [(.int w_count_a2)])) (fun t k => st6.trans k) ?_
  refine own_pre (B := T6.setTop (mkF m 15 #[.val (.ref a1), .val (.ref a2), .val .null, .val (.ref w_value_a2), .val (.int w_count_a2)] [])) (fun t k => XS.istore Xh7.here hx rfl (hb hby d29_13) rfl (l' := #[.val (.ref a1), .val (.ref a2), .val .null, .val (.ref w_value_a2), .val (.int w_count_a2)]) rfl k) ?_
  refine own_pre (B := T6.setTop (mkF m 16 #[.val (.ref a1), .val (.ref a2), .val .null, .val (.ref w_value_a2), .val (.int w_count_a2)] [(.ref a2)])) (fun t k => XS.aloadN Xh7.here hx rfl (hb hby d29_15) rfl rfl k) ?_
  obtain ⟨cq8, kq8, q8a, q8b, q8c⟩ := isOf hZ e6 E_a2
  obtain ⟨_, _, ⟨T8, L8, k8, n8⟩, -, X8, ⟨Lc8, hQ8, l8, y8, z8⟩, st8⟩ := Xh7.virtualBack hx (y := (⟨"java/lang/AbstractStringBuilder", "isLatin1", "()Z"⟩ : MethodName)) (z := (⟨"java/lang/AbstractStringBuilder", "isLatin1", "()Z"⟩ : MethodName)) hown (mvT hZ (hw _ (ow 179 rfl))) (mvT hZ (hw _ (ow 57 rfl))) (notFace_of_selects (args := #[]) (mvT hZ (hw _ (ow 59 rfl)))) (mvT hZ (hw _ (ow 59 rfl))) (mvT hZ (hw _ (ow 58 rfl))) (by decide) (backOf (W := 0) (rm9 l Z a0 hw [] a2 cs h0 n0 Z0 O0 SCS hcs F_coder_a2) hZ (hw _ (ow 60 rfl)) (hw _ (ow 24 rfl)) (by decide) (by decide)) q8a q8c (g := (mkF m 16 #[.val (.ref a1), .val (.ref a2), .val .null, .val (.ref w_value_a2), .val (.int w_count_a2)] [(.ref a2)])) rfl (by rw [hml]; rfl) (Steps.refl _) (argsL := []) (rest := []) (lenOf pd_11 rfl) rfl (by show 2 * 0 + _ ≤ _; exact Nat.le_of_eq rfl) (hb hby d29_16) (fun _ _ => ⟨rfl, e6, (by decide : 0 + 0 ≤ _), (by decide : 0 + 0 ≤ _)⟩)
  dsimp only [Pt.U, Pt.locs, Pt.cells, Pt.slots] at X8 l8 y8 z8 st8 hQ8
  subst l8 y8 z8
  obtain ⟨rfl, N8q, e8⟩ := hQ8
  have N8 := Fr.app Nh7 N8q
  obtain ⟨Lh9, Xh9, Nh9⟩ := own_hide X8 N8
  refine own_pre (B := T8.setTop (mkF m 19 #[.val (.ref a1), .val (.ref a2), .val .null, .val (.ref w_value_a2), .val (.int w_count_a2)] [(.int (1 : Int32))])) (fun t k => st8.trans k) ?_
  refine own_pre (B := T8.setTop (mkF m 22 #[.val (.ref a1), .val (.ref a2), .val .null, .val (.ref w_value_a2), .val (.int w_count_a2)] [])) (fun t k => XS.ifNo Xh9.here hx rfl (hb hby d29_19) rfl ((if0 _ _).trans (feq (by decide)).1) k) ?_
  refine own_pre (B := T8.setTop (mkF m 23 #[.val (.ref a1), .val (.ref a2), .val .null, .val (.ref w_value_a2), .val (.int w_count_a2)] [(.ref a1)])) (fun t k => XS.aloadN Xh9.here hx rfl (hb hby d29_22) rfl rfl k) ?_
  refine own_pre (B := T8.setTop (mkF m 24 #[.val (.ref a1), .val (.ref a2), .val .null, .val (.ref w_value_a2), .val (.int w_count_a2)] [(.int (0 : Int32)), (.ref a1)])) (fun t k => XS.iconst Xh9.here hx rfl (hb hby d29_23) k) ?_
  have K10 : Keep h0 h0 [a1] := (Keep.refl h0 [a1])
  obtain ⟨T11, h11, X11, e11, W11, st11⟩ := putFN Xh9 hx hZ hown (hw _ (ow 89 rfl)) Via.refl e8 F_coder_a1 E_a1 (Or.inr ⟨(hw _ (ow 5 rfl)), rfl, hnm⟩) (hw _ (ow 2 rfl)) (ty := .byte) (v' := (.int (0 : Int32))) (by decide) rfl rfl (g := (mkF m 24 #[.val (.ref a1), .val (.ref a2), .val .null, .val (.ref w_value_a2), .val (.int w_count_a2)] [(.int (0 : Int32)), (.ref a1)])) rfl rfl (hb hby d29_24)
  have Fw11 := Fld.same W11 F_coder_a1
  have N11 := Fr.snoc X11 Nh9 g_a1
  obtain ⟨Lh12, Xh12, Nh12⟩ := own_hide X11 N11
  refine own_pre (B := T11.setTop (mkF m 27 #[.val (.ref a1), .val (.ref a2), .val .null, .val (.ref w_value_a2), .val (.int w_count_a2)] [])) (fun t k => st11 t k) ?_
  refine own_pre (B := T11.setTop (mkF m 28 #[.val (.ref a1), .val (.ref a2), .val .null, .val (.ref w_value_a2), .val (.int w_count_a2)] [(.ref a1)])) (fun t k => XS.aloadN Xh12.here hx rfl (hb hby d29_27) rfl rfl k) ?_
  refine own_pre (B := T11.setTop (mkF m 29 #[.val (.ref a1), .val (.ref a2), .val .null, .val (.ref w_value_a2), .val (.int w_count_a2)] [(.ref w_value_a2), (.ref a1)])) (fun t k => XS.aloadN Xh12.here hx rfl (hb hby d29_28) rfl rfl k) ?_
  refine own_pre (B := T11.setTop (mkF m 30 #[.val (.ref a1), .val (.ref a2), .val .null, .val (.ref w_value_a2), .val (.int w_count_a2)] [(.int (0 : Int32)), (.ref w_value_a2), (.ref a1)])) (fun t k => XS.iconst Xh12.here hx rfl (hb hby d29_29) k) ?_
  refine own_pre (B := T11.setTop (mkF m 32 #[.val (.ref a1), .val (.ref a2), .val .null, .val (.ref w_value_a2), .val (.int w_count_a2)] [(.int w_count_a2), (.int (0 : Int32)), (.ref w_value_a2), (.ref a1)])) (fun t k => XS.iload Xh12.here hx rfl (hb hby d29_30) rfl k) ?_
  have c13 := (Arv.other V_w_value_a2 W11 ne_w_value_a2_a1)
  have c14 := (Exa.wr W11 E_w_value_a2)
  have sz15 : n0 ≤ h11.size := (Nat.le_trans Z0 (Keep.of_wr W11).1)
  obtain ⟨_, _, ⟨T16, L16, k16, n16⟩, -, X16, ⟨Lc16, hQ16, l16, y16, z16⟩, st16⟩ := Jvm.LawKit.callS Xh12 hx (y := (⟨"java/util/Arrays", "copyOfRange", "([BII)[B"⟩ : MethodName)) hown (mvT hZ (hw _ (ow 180 rfl))) (mvT hZ (hw _ (ow 181 rfl))) (mvT hZ (hw _ (ow 144 rfl))) (mvT hZ (hw _ (ow 182 rfl))) (by decide) (backOf (W := 1) (rm33 l Z a0 hw [] w_value_a2 w_count_a2 k_w_value_a2 xs NN h11 n0 sz15 c13 c14 (own_L0 hL) (own_L1 hL)) hZ (hw _ (ow 182 rfl)) (hw _ (ow 144 rfl)) (by decide) (by decide)) (g := (mkF m 32 #[.val (.ref a1), .val (.ref a2), .val .null, .val (.ref w_value_a2), .val (.int w_count_a2)] [(.int w_count_a2), (.int (0 : Int32)), (.ref w_value_a2), (.ref a1)])) rfl (by rw [hml]; rfl) (argsL := [(.ref w_value_a2), (.int (0 : Int32)), (.int w_count_a2)]) (rest := [(.ref a1)]) (lenOf pd_15 rfl) rfl (by show 2 * 0 + _ ≤ _; exact Nat.le_of_eq rfl) (hb hby d29_32) (fun _ _ => ⟨rfl, e11, (by decide : 0 + 1 ≤ _), (by decide : 0 + 172 ≤ _)⟩)
  dsimp only [Pt.U, Pt.locs, Pt.cells, Pt.slots] at X16 l16 y16 z16 st16 hQ16
  subst l16 y16 z16
  obtain ⟨b_16, k_16, x_16, rfl, N16q, K16, q16g, q16s, q16v⟩ := hQ16
  have N16 := Fr.app Nh12 N16q
  have K17 : Keep h0 h11 [a1] := (Keep.wr K10 W11 (Or.inl (List.mem_of_getElem? (i := 0) rfl)))
  have c18 := (Exa.wr W11 E_a2)
  have ne19 : a2 ≠ b_16 := Nat.ne_of_lt (Nat.lt_of_lt_of_le (Exa.lt c18) q16s)
  have c20 := (Exa.wr W11 E_a1)
  have ne21 : a1 ≠ b_16 := Nat.ne_of_lt (Nat.lt_of_lt_of_le (Exa.lt c20) q16s)
  have ne22 : w_value_a2 ≠ b_16 := Nat.ne_of_lt (Nat.lt_of_lt_of_le (Exa.lt c14) q16s)
  have s_b_16 : h0.size ≤ b_16 := Nat.le_trans K17.1 q16s
  obtain ⟨Lh23, Xh23, Nh23⟩ := own_hide X16 N16
  refine own_pre (B := T16.setTop (mkF m 35 #[.val (.ref a1), .val (.ref a2), .val .null, .val (.ref w_value_a2), .val (.int w_count_a2)] [(.ref b_16), (.ref a1)])) (fun t k => st16 t k) ?_
  have c24 := (Exa.keep c20 K16)
  have c25 := (Fld.keep (Fld.other W11 F_value_a1 (Or.inr (slot_ne (Or.inr (hw _ (ow 4 rfl))) (Or.inr (hw _ (ow 5 rfl))) (by decide) (t := (.array .byte)) (t' := .byte) (by decide) (by decide)))) K16 nin0)
  have K26 : Keep h0 T16.heap [a1] := (Keep.trans K17 K16 all0)
  obtain ⟨T27, h27, X27, e27, W27, st27⟩ := putF Xh23 hx hZ hown (host := "") (Or.inl (hw _ (ow 82 rfl))) Via.refl rfl c25 c24 (Or.inr ⟨(hw _ (ow 4 rfl)), rfl, hnm⟩) (hw _ (ow 2 rfl)) (ty := (.array .byte)) (by decide) rfl rfl (g := (mkF m 35 #[.val (.ref a1), .val (.ref a2), .val .null, .val (.ref w_value_a2), .val (.int w_count_a2)] [(.ref b_16), (.ref a1)])) rfl rfl (hb hby d29_35)
  have Fw27 := Fld.same W27 c25
  have N27 := Fr.snoc X27 Nh23 g_a1
  obtain ⟨Lh28, Xh28, Nh28⟩ := own_hide X27 N27
  refine own_pre (B := T27.setTop (mkF m 38 #[.val (.ref a1), .val (.ref a2), .val .null, .val (.ref w_value_a2), .val (.int w_count_a2)] [])) (fun t k => st27 t k) ?_
  refine own_pre (B := T27.setTop (mkF m 97 #[.val (.ref a1), .val (.ref a2), .val .null, .val (.ref w_value_a2), .val (.int w_count_a2)] [])) (fun t k => XS.goto Xh28.here hx rfl (pc0 := 38) (pc' := 97) rfl (hb hby d29_38) (by decide) (by decide) k) ?_
  have K29 : Keep h0 h27 [a1] := (Keep.wr K26 W27 (Or.inl (List.mem_of_getElem? (i := 0) rfl)))
  have c30 := (Exa.wr W27 c24)
  have c31 := (Fld.other W27 (Fld.keep Fw11 K16 nin0) (Or.inr (slot_ne (Or.inr (hw _ (ow 5 rfl))) (Or.inr (hw _ (ow 4 rfl))) (by decide) (t := .byte) (t' := (.array .byte)) (by decide) (by decide))))
  have c32 := (Arv.other q16v W27 (Ne.symm ne21))
  obtain ⟨fsr33, hrr33, hrunr33, hendedr33, hWr33, hsamer33⟩ := Xh28.leave (v := none) (fun _ => rfl)
  refine ⟨_, _, (Xh28.returnOut hx Bd.returns (hb hby d29_97) hrr33), hrunr33, hendedr33, _, _, rfl, ?_, ⟨_, rfl⟩, hWr33, hsamer33.mono (by decide) (by decide)⟩
  show Q29 Z a1 a2 cs w_value_a2 k_w_value_a2 xs NN w_count_a2 u_coder_a1 u_value_a1 h0 n0 _ T27.heap _
  rw [e27]
  exact ⟨b_16, k_16, x_16, rfl, Nh28, K29, c30, c31, Fw27, q16g, s_b_16, c32⟩
theorem pd_17 : parseMethodDescriptor "(Ljava/lang/AbstractStringBuilder;Ljava/lang/Void;)V" = some ⟨[(.object "java/lang/AbstractStringBuilder"), (.object "java/lang/Void")], none⟩ := by decide +kernel
theorem d28_0 : decode jdk_42_method_53_code 0 = .ok (.aload_n 0, 1) := by decide +kernel
theorem d28_1 : decode jdk_42_method_53_code 1 = .ok (.aload_n 1, 1) := by decide +kernel
theorem d28_2 : decode jdk_42_method_53_code 2 = .ok (.aconst_null, 1) := by decide +kernel
theorem d28_3 : decode jdk_42_method_53_code 3 = .ok (.invokespecial 489, 3) := by decide +kernel
theorem d28_6 : decode jdk_42_method_53_code 6 = .ok (.return_, 1) := by decide +kernel
theorem pn_28 : plainName "java/lang/String" = true := by first | (simp [plainName, overriddenIn]; done) | decide +kernel
theorem ef_28 (m : MethodId) (x0 : Addr) (x1 : Addr) : entryFrame m #[(.ref x0), (.ref x1)] 2 = mkF m 0 #[.val (.ref x0), .val (.ref x1)] [] := by first | (simp [entryFrame, mkF, argsToLocals, Value.category]; done) | rfl
def Q28 (Z : State) (a1 : Addr) (a2 : Addr) (u_value_a1 : Value) (u_coder_a1 : Value) (cs : Int32) (w_value_a2 : Addr) (k_w_value_a2 : ClassId) (xs : List Value) (NN : Int32) (w_count_a2 : Int32) (h0 : Heap) (n0 : Nat) (v : Option Value) (h : Heap) (L : List Loc) : Prop := ∃ (b_16_3 : Addr) (k_16_3 : ClassId) (ub0 : List Value), v = none ∧ Fr n0 L ∧ Keep h0 h [a1] ∧ Exa Z h a1 "java/lang/String" ∧ Fld Z h a1 "java/lang/String" "value" "[B" (.ref b_16_3) ∧ Fld Z h a1 "java/lang/String" "coder" "B" (.int (0 : Int32)) ∧ n0 ≤ b_16_3 ∧ h0.size ≤ b_16_3 ∧ Arv Z h b_16_3 k_16_3 .byte w_count_a2 ub0 (.int (0 : Int32))
set_option maxRecDepth 65536 in
set_option maxHeartbeats 40000000 in
theorem rm28 (l : Launch) (Z : State) (a0 : Array Value) (hw : ∀ d ∈ tables_1, d.before a0 Z = true) (ws : List Jvm.Cond) (a1 : Addr) (a2 : Addr) (u_value_a1 : Value) (u_coder_a1 : Value) (cs : Int32) (w_value_a2 : Addr) (k_w_value_a2 : ClassId) (xs : List Value) (NN : Int32) (w_count_a2 : Int32) (h0 : Heap) (n0 : Nat) (Z0 : n0 ≤ h0.size) (E_a1 : Exa Z h0 a1 "java/lang/String") (F_value_a1 : Fld Z h0 a1 "java/lang/String" "value" "[B" u_value_a1) (F_coder_a1 : Fld Z h0 a1 "java/lang/String" "coder" "B" u_coder_a1) (O0 : Old Z n0 h0) (SCS : Sta Z Z.heap "java/lang/String" "COMPACT_STRINGS" "Z" (.int cs)) (hcs : ¬ cs = (0 : Int32)) (E_a2 : Exa Z h0 a2 "java/lang/StringBuilder") (F_value_a2 : Fld Z h0 a2 "java/lang/AbstractStringBuilder" "value" "[B" (.ref w_value_a2)) (F_coder_a2 : Fld Z h0 a2 "java/lang/AbstractStringBuilder" "coder" "B" (.int (0 : Int32))) (V_w_value_a2 : Arv Z h0 w_value_a2 k_w_value_a2 .byte NN xs (.int (0 : Int32))) (E_w_value_a2 : Exa Z h0 w_value_a2 "[B") (F_count_a2 : Fld Z h0 a2 "java/lang/AbstractStringBuilder" "count" "I" (.int w_count_a2)) (hL : own_L w_count_a2 NN) (ne_a2_a1 : a2 ≠ a1) (ne_w_value_a2_a1 : w_value_a2 ≠ a1) (g_a1 : n0 ≤ a1) :
    MetFree l (⟨"java/lang/String", "<init>", "(Ljava/lang/StringBuilder;)V"⟩ : MethodName) (head1 (Jvm.Cond.code (⟨"java/lang/String", "<init>", "(Ljava/lang/StringBuilder;)V"⟩ : MethodName) jdk_42_method_53_code 2 none :: ws) ({ frames := 4, cells := 1, slots := 172, locals := 65 } : Room)) (fun a U => a = #[(.ref a1), (.ref a2)] ∧ Z.Warmed39 U.vm ∧ U.heap = h0) (fun _ _ _ _ _ => True) (fun _ U o U' => ∃ v L, o = .returned v ∧ Q28 Z a1 a2 u_value_a1 u_coder_a1 cs w_value_a2 k_w_value_a2 xs NN w_count_a2 h0 n0 v U'.heap L ∧ FrameEnd U o U' L ({ frames := 4, cells := 1, slots := 172, locals := 65 } : Room).cells ({ frames := 4, cells := 1, slots := 172, locals := 65 } : Room).slots) := by
  refine MetFree.of_bodySF (plainFor_of_name pn_28) hisR ?_
  intro p e s m args below meth c s₁ Bd hml0 hP hK
  obtain ⟨rfl, hZ, hh⟩ := hP
  have hx := Bd.exec
  have hby := Bd.bytes
  have hml : c.maxLocals = 2 := hml0
  have hown : s.vm.findClass "java/lang/String" = some m.cls := findClass_of_methodNamed Bd.named
  have hnm := (name_of_methodNamed Bd.named Bd.method).1
  have X0 : Stand p l e ({ frames := 4, cells := 1, slots := 172, locals := 65 } : Room) s m #[(.ref a1), (.ref a2)] below meth c s₁ [] 0 0 := Stand.of_body Bd
  have e0 : s₁.heap = h0 := by rw [← hh, Bd.state]; rfl
  have N0 := Fr.nil n0
  apply own_in
  refine own_pre (B := s₁.setTop (mkF m 0 #[.val (.ref a1), .val (.ref a2)] [])) (fun t k => castTop (ef_28 m a1 a2) k) ?_
  refine own_pre (B := s₁.setTop (mkF m 1 #[.val (.ref a1), .val (.ref a2)] [(.ref a1)])) (fun t k => XS.aloadN X0.here hx rfl (hb hby d28_0) rfl rfl k) ?_
  refine own_pre (B := s₁.setTop (mkF m 2 #[.val (.ref a1), .val (.ref a2)] [(.ref a2), (.ref a1)])) (fun t k => XS.aloadN X0.here hx rfl (hb hby d28_1) rfl rfl k) ?_
  refine own_pre (B := s₁.setTop (mkF m 3 #[.val (.ref a1), .val (.ref a2)] [.null, (.ref a2), (.ref a1)])) (fun t k => XS.aconstNull X0.here hx rfl (hb hby d28_2) k) ?_
  obtain ⟨_, _, ⟨T3, L3, k3, n3⟩, -, X3, ⟨Lc3, hQ3, l3, y3, z3⟩, st3⟩ := X0.specialBack hx (y := (⟨"java/lang/String", "<init>", "(Ljava/lang/AbstractStringBuilder;Ljava/lang/Void;)V"⟩ : MethodName)) rfl hown (mvT hZ (hw _ (ow 162 rfl))) (mvT hZ (hw _ (ow 163 rfl))) (mvT hZ (hw _ (ow 164 rfl))) (by decide) (backOf (W := 0) (rm29 l Z a0 hw [] a1 a2 cs w_value_a2 k_w_value_a2 xs NN w_count_a2 u_coder_a1 u_value_a1 h0 n0 Z0 E_a1 O0 SCS hcs E_a2 F_value_a2 F_coder_a2 V_w_value_a2 E_w_value_a2 F_count_a2 hL ne_a2_a1 ne_w_value_a2_a1 F_coder_a1 g_a1 F_value_a1) hZ (hw _ (ow 164 rfl)) (hw _ (ow 1 rfl)) (by decide) (by decide)) (g := (mkF m 3 #[.val (.ref a1), .val (.ref a2)] [.null, (.ref a2), (.ref a1)])) rfl (by rw [hml]; rfl) (Steps.refl _) (a := a1) (argsL := [(.ref a2), .null]) (rest := []) (lenOf pd_17 rfl) rfl (by show 2 * 0 + _ ≤ _; exact Nat.le_of_eq rfl) (hb hby d28_3) (fun _ _ => ⟨rfl, e0, (by decide : 0 + 1 ≤ _), (by decide : 0 + 172 ≤ _)⟩)
  dsimp only [Pt.U, Pt.locs, Pt.cells, Pt.slots] at X3 l3 y3 z3 st3 hQ3
  subst l3 y3 z3
  obtain ⟨b_16_3, k_16_3, ub0_3, rfl, N3q, K3, q3_0, q3_1, q3_2, q3_3, q3_4, q3_5⟩ := hQ3
  have N3 := Fr.app N0 N3q
  have K4 : Keep h0 h0 [a1] := (Keep.refl h0 [a1])
  have ne5 : a1 ≠ b_16_3 := Nat.ne_of_lt (Nat.lt_of_lt_of_le (Exa.lt E_a1) q3_4)
  have ne6 : a2 ≠ b_16_3 := Nat.ne_of_lt (Nat.lt_of_lt_of_le (Exa.lt E_a2) q3_4)
  have ne7 : w_value_a2 ≠ b_16_3 := Nat.ne_of_lt (Nat.lt_of_lt_of_le (Exa.lt E_w_value_a2) q3_4)
  have s_b_16_3 : h0.size ≤ b_16_3 := Nat.le_trans K4.1 q3_4
  obtain ⟨Lh8, Xh8, Nh8⟩ := own_hide X3 N3
  refine own_pre (B := T3.setTop (mkF m 6 #[.val (.ref a1), .val (.ref a2)] [])) (fun t k => st3.trans k) ?_
  have K9 : Keep h0 T3.heap [a1] := (Keep.trans K4 K3 (allS (P := fun x => x ∈ [a1] ∨ h0.size ≤ x) (Or.inl (List.mem_of_getElem? (i := 0) rfl)) all0))
  obtain ⟨fsr10, hrr10, hrunr10, hendedr10, hWr10, hsamer10⟩ := Xh8.leave (v := none) (fun _ => rfl)
  refine ⟨_, _, (Xh8.returnOut hx Bd.returns (hb hby d28_6) hrr10), hrunr10, hendedr10, _, _, rfl, ?_, ⟨_, rfl⟩, hWr10, hsamer10.mono (by decide) (by decide)⟩
  show Q28 Z a1 a2 u_value_a1 u_coder_a1 cs w_value_a2 k_w_value_a2 xs NN w_count_a2 h0 n0 _ T3.heap _
  exact ⟨b_16_3, k_16_3, ub0_3, rfl, Nh8, K9, q3_0, q3_2, q3_1, q3_3, s_b_16_3, q3_5⟩
theorem pd_18 : parseMethodDescriptor "(Ljava/lang/StringBuilder;)V" = some ⟨[(.object "java/lang/StringBuilder")], none⟩ := by decide +kernel
theorem d27_0 : decode jdk_67_method_42_code 0 = .ok (.new 18, 3) := by decide +kernel
theorem d27_3 : decode jdk_67_method_42_code 3 = .ok (.dup, 1) := by decide +kernel
theorem d27_4 : decode jdk_67_method_42_code 4 = .ok (.aload_n 0, 1) := by decide +kernel
theorem d27_5 : decode jdk_67_method_42_code 5 = .ok (.invokespecial 137, 3) := by decide +kernel
theorem d27_8 : decode jdk_67_method_42_code 8 = .ok (.areturn, 1) := by decide +kernel
theorem pn_27 : plainName "java/lang/StringBuilder" = true := by first | (simp [plainName, overriddenIn]; done) | decide +kernel
theorem ef_27 (m : MethodId) (x0 : Addr) : entryFrame m #[(.ref x0)] 1 = mkF m 0 #[.val (.ref x0)] [] := by first | (simp [entryFrame, mkF, argsToLocals, Value.category]; done) | rfl
def Q27 (Z : State) (a1 : Addr) (cs : Int32) (w_value_a1 : Addr) (k_w_value_a1 : ClassId) (xs : List Value) (NN : Int32) (w_count_a1 : Int32) (h0 : Heap) (n0 : Nat) (v : Option Value) (h : Heap) (L : List Loc) : Prop := ∃ (b3 b_16_3_14 : Addr) (k_16_3_14 : ClassId) (ub0 : List Value), v = some (.ref b3) ∧ Fr n0 L ∧ Keep h0 h [] ∧ n0 ≤ b3 ∧ h0.size ≤ b3 ∧ Exa Z h b3 "java/lang/String" ∧ Fld Z h b3 "java/lang/String" "value" "[B" (.ref b_16_3_14) ∧ Fld Z h b3 "java/lang/String" "coder" "B" (.int (0 : Int32)) ∧ n0 ≤ b_16_3_14 ∧ h0.size ≤ b_16_3_14 ∧ Arv Z h b_16_3_14 k_16_3_14 .byte w_count_a1 ub0 (.int (0 : Int32)) ∧ b3 ≠ b_16_3_14
set_option maxRecDepth 65536 in
set_option maxHeartbeats 40000000 in
theorem rm27 (l : Launch) (Z : State) (a0 : Array Value) (hw : ∀ d ∈ tables_1, d.before a0 Z = true) (ws : List Jvm.Cond) (a1 : Addr) (cs : Int32) (w_value_a1 : Addr) (k_w_value_a1 : ClassId) (xs : List Value) (NN : Int32) (w_count_a1 : Int32) (h0 : Heap) (n0 : Nat) (Z0 : n0 ≤ h0.size) (O0 : Old Z n0 h0) (SCS : Sta Z Z.heap "java/lang/String" "COMPACT_STRINGS" "Z" (.int cs)) (hcs : ¬ cs = (0 : Int32)) (E_a1 : Exa Z h0 a1 "java/lang/StringBuilder") (F_value_a1 : Fld Z h0 a1 "java/lang/AbstractStringBuilder" "value" "[B" (.ref w_value_a1)) (F_coder_a1 : Fld Z h0 a1 "java/lang/AbstractStringBuilder" "coder" "B" (.int (0 : Int32))) (V_w_value_a1 : Arv Z h0 w_value_a1 k_w_value_a1 .byte NN xs (.int (0 : Int32))) (E_w_value_a1 : Exa Z h0 w_value_a1 "[B") (F_count_a1 : Fld Z h0 a1 "java/lang/AbstractStringBuilder" "count" "I" (.int w_count_a1)) (hL : own_L w_count_a1 NN) :
    MetFree l (⟨"java/lang/StringBuilder", "toString", "()Ljava/lang/String;"⟩ : MethodName) (head1 (Jvm.Cond.code (⟨"java/lang/StringBuilder", "toString", "()Ljava/lang/String;"⟩ : MethodName) jdk_67_method_42_code 1 (some (.object "java/lang/String")) :: ws) ({ frames := 5, cells := 2, slots := 176, locals := 79 } : Room)) (fun a U => a = #[(.ref a1)] ∧ Z.Warmed39 U.vm ∧ U.heap = h0) (fun _ _ _ _ _ => True) (fun _ U o U' => ∃ v L, o = .returned v ∧ Q27 Z a1 cs w_value_a1 k_w_value_a1 xs NN w_count_a1 h0 n0 v U'.heap L ∧ FrameEnd U o U' L ({ frames := 5, cells := 2, slots := 176, locals := 79 } : Room).cells ({ frames := 5, cells := 2, slots := 176, locals := 79 } : Room).slots) := by
  refine MetFree.of_bodySF (plainFor_of_name pn_27) hisR ?_
  intro p e s m args below meth c s₁ Bd hml0 hP hK
  obtain ⟨rfl, hZ, hh⟩ := hP
  have hx := Bd.exec
  have hby := Bd.bytes
  have hml : c.maxLocals = 1 := hml0
  have hown : s.vm.findClass "java/lang/StringBuilder" = some m.cls := findClass_of_methodNamed Bd.named
  have hnm := (name_of_methodNamed Bd.named Bd.method).1
  have X0 : Stand p l e ({ frames := 5, cells := 2, slots := 176, locals := 79 } : Room) s m #[(.ref a1)] below meth c s₁ [] 0 0 := Stand.of_body Bd
  have e0 : s₁.heap = h0 := by rw [← hh, Bd.state]; rfl
  have N0 := Fr.nil n0
  apply own_in
  refine own_pre (B := s₁.setTop (mkF m 0 #[.val (.ref a1)] [])) (fun t k => castTop (ef_27 m a1) k) ?_
  have K2 : Keep h0 h0 [] := (Keep.refl h0 [])
  obtain ⟨T3, h3, X3, e3, E3, A3, D3, -, st3⟩ := newO X0 hx hZ hown (hw _ (ow 157 rfl)) (hw _ (ow 2 rfl)) (hw _ (ow 1 rfl)) e0 (g := (mkF m 0 #[.val (.ref a1)] [])) rfl (hb hby d27_0) (by decide) (by decide)
  obtain ⟨b3, g3⟩ : ∃ z, z = h0.size := ⟨_, rfl⟩
  rw [← g3] at A3 D3 st3
  have g_b3 : n0 ≤ b3 := Nat.le_trans Z0 (Nat.le_of_eq g3.symm)
  have s_b3 : h0.size ≤ b3 := Nat.le_trans K2.1 (Nat.le_of_eq g3.symm)
  have ne4 : a1 ≠ b3 := Nat.ne_of_lt (Nat.lt_of_lt_of_le (Exa.lt E_a1) (Nat.le_of_eq g3.symm))
  have ne5 : w_value_a1 ≠ b3 := Nat.ne_of_lt (Nat.lt_of_lt_of_le (Exa.lt E_w_value_a1) (Nat.le_of_eq g3.symm))
  have F_value_b3 : Fld Z h3 b3 "java/lang/String" "value" "[B" .null := D3 (Or.inr (hw _ (ow 4 rfl))) (ty := (.array .byte)) (by decide)
  have F_coder_b3 : Fld Z h3 b3 "java/lang/String" "coder" "B" (.int (0 : Int32)) := D3 (Or.inr (hw _ (ow 5 rfl))) (ty := .byte) (by decide)
  refine own_pre (B := T3.setTop (mkF m 3 #[.val (.ref a1)] [(.ref b3)])) (fun t k => st3 t k) ?_
  refine own_pre (B := T3.setTop (mkF m 4 #[.val (.ref a1)] [(.ref b3), (.ref b3)])) (fun t k => XS.dup X3.here hx rfl (hb hby d27_3) rfl rfl k) ?_
  refine own_pre (B := T3.setTop (mkF m 5 #[.val (.ref a1)] [(.ref a1), (.ref b3), (.ref b3)])) (fun t k => XS.aloadN X3.here hx rfl (hb hby d27_4) rfl rfl k) ?_
  have O6 := (Old.ext O0 E3)
  have c7 := (E_a1.ext E3)
  have c8 := (F_value_a1.ext E3)
  have c9 := (F_coder_a1.ext E3)
  have c10 := (Arv.ext V_w_value_a1 E3)
  have c11 := (E_w_value_a1.ext E3)
  have c12 := (F_count_a1.ext E3)
  have sz13 : n0 ≤ h3.size := (Nat.le_trans Z0 E3.1)
  obtain ⟨_, _, ⟨T14, L14, k14, n14⟩, -, X14, ⟨Lc14, hQ14, l14, y14, z14⟩, st14⟩ := X3.specialBack hx (y := (⟨"java/lang/String", "<init>", "(Ljava/lang/StringBuilder;)V"⟩ : MethodName)) rfl hown (mvT hZ (hw _ (ow 158 rfl))) (mvT hZ (hw _ (ow 159 rfl))) (mvT hZ (hw _ (ow 161 rfl))) (by decide) (backOf (W := 1) (rm28 l Z a0 hw [] b3 a1 .null (.int (0 : Int32)) cs w_value_a1 k_w_value_a1 xs NN w_count_a1 h3 n0 sz13 A3 F_value_b3 F_coder_b3 O6 SCS hcs c7 c8 c9 c10 c11 c12 hL ne4 ne5 g_b3) hZ (hw _ (ow 161 rfl)) (hw _ (ow 1 rfl)) (by decide) (by decide)) (g := (mkF m 5 #[.val (.ref a1)] [(.ref a1), (.ref b3), (.ref b3)])) rfl (by rw [hml]; rfl) (Steps.refl _) (a := b3) (argsL := [(.ref a1)]) (rest := [(.ref b3)]) (lenOf pd_18 rfl) rfl (by show 2 * 0 + _ ≤ _; exact Nat.le_of_eq rfl) (hb hby d27_5) (fun _ _ => ⟨rfl, e3, (by decide : 1 + 1 ≤ _), (by decide : 4 + 172 ≤ _)⟩)
  dsimp only [Pt.U, Pt.locs, Pt.cells, Pt.slots] at X14 l14 y14 z14 st14 hQ14
  subst l14 y14 z14
  obtain ⟨b_16_3_14, k_16_3_14, ub0_14, rfl, N14q, K14, q14_0, q14_1, q14_2, q14_3, q14_4, q14_5⟩ := hQ14
  have N14 := Fr.app N0 N14q
  have K15 : Keep h0 h3 [] := (Keep.ext K2 E3)
  have ne16 : a1 ≠ b_16_3_14 := Nat.ne_of_lt (Nat.lt_of_lt_of_le (Exa.lt c7) q14_4)
  have ne17 : b3 ≠ b_16_3_14 := Nat.ne_of_lt (Nat.lt_of_lt_of_le (Exa.lt A3) q14_4)
  have ne18 : w_value_a1 ≠ b_16_3_14 := Nat.ne_of_lt (Nat.lt_of_lt_of_le (Exa.lt c11) q14_4)
  have s_b_16_3_14 : h0.size ≤ b_16_3_14 := Nat.le_trans K15.1 q14_4
  obtain ⟨Lh19, Xh19, Nh19⟩ := own_hide X14 N14
  refine own_pre (B := T14.setTop (mkF m 8 #[.val (.ref a1)] [(.ref b3)])) (fun t k => st14.trans k) ?_
  have K20 : Keep h0 T14.heap [] := (Keep.trans K15 K14 (allS (P := fun x => x ∈ [] ∨ h0.size ≤ x) (Or.inr s_b3) all0))
  obtain ⟨fsr21, hrr21, hrunr21, hendedr21, hWr21, hsamer21⟩ := Xh19.leave (v := some (.ref b3)) (fun h => by rw [Bd.returns] at h; cases h)
  refine ⟨_, _, (retOut Xh19 hx (i := .areturn) Bd.returns rfl (Or.inr (Or.inr (Or.inr (Or.inr ⟨rfl, rfl, rfl⟩)))) (hb hby d27_8) hrr21), hrunr21, hendedr21, _, _, rfl, ?_, ⟨_, rfl⟩, hWr21, hsamer21.mono (by decide) (by decide)⟩
  show Q27 Z a1 cs w_value_a1 k_w_value_a1 xs NN w_count_a1 h0 n0 _ T14.heap _
  exact ⟨b3, b_16_3_14, k_16_3_14, ub0_14, rfl, Nh19, K20, g_b3, s_b3, q14_0, q14_1, q14_2, q14_3, s_b_16_3_14, q14_5, ne17⟩
theorem d36_0 : decode prog_37_method_2_code 0 = .ok (.aload_n 0, 1) := by decide +kernel
theorem d36_1 : decode prog_37_method_2_code 1 = .ok (.invokespecial 28, 3) := by decide +kernel
theorem d36_4 : decode prog_37_method_2_code 4 = .ok (.aload_n 0, 1) := by decide +kernel
theorem d36_5 : decode prog_37_method_2_code 5 = .ok (.lload_n 1, 1) := by decide +kernel
theorem d36_6 : decode prog_37_method_2_code 6 = .ok (.putfield 31, 3) := by decide +kernel
theorem d36_9 : decode prog_37_method_2_code 9 = .ok (.aload_n 0, 1) := by decide +kernel
theorem d36_10 : decode prog_37_method_2_code 10 = .ok (.iload_n 3, 1) := by decide +kernel
theorem d36_11 : decode prog_37_method_2_code 11 = .ok (.putfield 35, 3) := by decide +kernel
theorem d36_14 : decode prog_37_method_2_code 14 = .ok (.aload_n 0, 1) := by decide +kernel
theorem d36_15 : decode prog_37_method_2_code 15 = .ok (.lload 4, 2) := by decide +kernel
theorem d36_17 : decode prog_37_method_2_code 17 = .ok (.putfield 39, 3) := by decide +kernel
theorem d36_20 : decode prog_37_method_2_code 20 = .ok (.aload_n 0, 1) := by decide +kernel
theorem d36_21 : decode prog_37_method_2_code 21 = .ok (.lload 6, 2) := by decide +kernel
theorem d36_23 : decode prog_37_method_2_code 23 = .ok (.putfield 42, 3) := by decide +kernel
theorem d36_26 : decode prog_37_method_2_code 26 = .ok (.aload_n 0, 1) := by decide +kernel
theorem d36_27 : decode prog_37_method_2_code 27 = .ok (.aload 8, 2) := by decide +kernel
theorem d36_29 : decode prog_37_method_2_code 29 = .ok (.putfield 45, 3) := by decide +kernel
theorem d36_32 : decode prog_37_method_2_code 32 = .ok (.aload_n 0, 1) := by decide +kernel
theorem d36_33 : decode prog_37_method_2_code 33 = .ok (.aload 9, 2) := by decide +kernel
theorem d36_35 : decode prog_37_method_2_code 35 = .ok (.putfield 49, 3) := by decide +kernel
theorem d36_38 : decode prog_37_method_2_code 38 = .ok (.return_, 1) := by decide +kernel
theorem pn_36 : plainName "com/example/internode_coordination/internodecoordination/member/LogEntry" = true := by first | (simp [plainName, overriddenIn]; done) | decide +kernel
theorem ef_36 (m : MethodId) (x0 : Addr) (x1 : Int64) (x2 : Int32) (x3 : Int64) (x4 : Int64) (x5 : Addr) (x6 : Addr) : entryFrame m #[(.ref x0), (.long x1), (.int x2), (.long x3), (.long x4), (.ref x5), (.ref x6)] 10 = mkF m 0 #[.val (.ref x0), .val (.long x1), .second, .val (.int x2), .val (.long x3), .second, .val (.long x4), .second, .val (.ref x5), .val (.ref x6)] [] := by first | (simp [entryFrame, mkF, argsToLocals, Value.category]; done) | rfl
def Q36 (Z : State) (a1 : Addr) (q2 : Int64) (p3 : Int32) (q4 : Int64) (q5 : Int64) (a6 : Addr) (a7 : Addr) (u_term_a1 : Value) (u_origin_a1 : Value) (u_boot_a1 : Value) (u_sequence_a1 : Value) (u_command_a1 : Value) (u_text_a1 : Value) (h0 : Heap) (n0 : Nat) (v : Option Value) (h : Heap) (L : List Loc) : Prop := v = none ∧ Fr n0 L ∧ Keep h0 h [a1] ∧ Exa Z h a1 "com/example/internode_coordination/internodecoordination/member/LogEntry" ∧ Fld Z h a1 "com/example/internode_coordination/internodecoordination/member/LogEntry" "term" "J" (.long q2) ∧ Fld Z h a1 "com/example/internode_coordination/internodecoordination/member/LogEntry" "origin" "I" (.int p3) ∧ Fld Z h a1 "com/example/internode_coordination/internodecoordination/member/LogEntry" "boot" "J" (.long q4) ∧ Fld Z h a1 "com/example/internode_coordination/internodecoordination/member/LogEntry" "sequence" "J" (.long q5) ∧ Fld Z h a1 "com/example/internode_coordination/internodecoordination/member/LogEntry" "command" "Ljava/lang/String;" (.ref a6) ∧ Fld Z h a1 "com/example/internode_coordination/internodecoordination/member/LogEntry" "text" "Ljava/lang/String;" (.ref a7)
set_option maxRecDepth 65536 in
set_option maxHeartbeats 40000000 in
theorem rm36 (l : Launch) (Z : State) (a0 : Array Value) (hw : ∀ d ∈ tables_1, d.before a0 Z = true) (ws : List Jvm.Cond) (a1 : Addr) (q2 : Int64) (p3 : Int32) (q4 : Int64) (q5 : Int64) (a6 : Addr) (a7 : Addr) (u_term_a1 : Value) (u_origin_a1 : Value) (u_boot_a1 : Value) (u_sequence_a1 : Value) (u_command_a1 : Value) (u_text_a1 : Value) (h0 : Heap) (n0 : Nat) (Z0 : n0 ≤ h0.size) (E_a1 : Exa Z h0 a1 "com/example/internode_coordination/internodecoordination/member/LogEntry") (F_term_a1 : Fld Z h0 a1 "com/example/internode_coordination/internodecoordination/member/LogEntry" "term" "J" u_term_a1) (g_a1 : n0 ≤ a1) (F_origin_a1 : Fld Z h0 a1 "com/example/internode_coordination/internodecoordination/member/LogEntry" "origin" "I" u_origin_a1) (F_boot_a1 : Fld Z h0 a1 "com/example/internode_coordination/internodecoordination/member/LogEntry" "boot" "J" u_boot_a1) (F_sequence_a1 : Fld Z h0 a1 "com/example/internode_coordination/internodecoordination/member/LogEntry" "sequence" "J" u_sequence_a1) (F_command_a1 : Fld Z h0 a1 "com/example/internode_coordination/internodecoordination/member/LogEntry" "command" "Ljava/lang/String;" u_command_a1) (F_text_a1 : Fld Z h0 a1 "com/example/internode_coordination/internodecoordination/member/LogEntry" "text" "Ljava/lang/String;" u_text_a1) :
    MetFree l (⟨"com/example/internode_coordination/internodecoordination/member/LogEntry", "<init>", "(JIJJLjava/lang/String;Ljava/lang/String;)V"⟩ : MethodName) (head1 (Jvm.Cond.code (⟨"com/example/internode_coordination/internodecoordination/member/LogEntry", "<init>", "(JIJJLjava/lang/String;Ljava/lang/String;)V"⟩ : MethodName) prog_37_method_2_code 10 none :: ws) ({ frames := 1, cells := 0, slots := 0, locals := 12 } : Room)) (fun a U => a = #[(.ref a1), (.long q2), (.int p3), (.long q4), (.long q5), (.ref a6), (.ref a7)] ∧ Z.Warmed39 U.vm ∧ U.heap = h0) (fun _ _ _ _ _ => True) (fun _ U o U' => ∃ v L, o = .returned v ∧ Q36 Z a1 q2 p3 q4 q5 a6 a7 u_term_a1 u_origin_a1 u_boot_a1 u_sequence_a1 u_command_a1 u_text_a1 h0 n0 v U'.heap L ∧ FrameEnd U o U' L ({ frames := 1, cells := 0, slots := 0, locals := 12 } : Room).cells ({ frames := 1, cells := 0, slots := 0, locals := 12 } : Room).slots) := by
  refine MetFree.of_bodySF (plainFor_of_name pn_36) hisR ?_
  intro p e s m args below meth c s₁ Bd hml0 hP hK
  obtain ⟨rfl, hZ, hh⟩ := hP
  have hx := Bd.exec
  have hby := Bd.bytes
  have hml : c.maxLocals = 10 := hml0
  have hown : s.vm.findClass "com/example/internode_coordination/internodecoordination/member/LogEntry" = some m.cls := findClass_of_methodNamed Bd.named
  have hnm := (name_of_methodNamed Bd.named Bd.method).1
  have X0 : Stand p l e ({ frames := 1, cells := 0, slots := 0, locals := 12 } : Room) s m #[(.ref a1), (.long q2), (.int p3), (.long q4), (.long q5), (.ref a6), (.ref a7)] below meth c s₁ [] 0 0 := Stand.of_body Bd
  have e0 : s₁.heap = h0 := by rw [← hh, Bd.state]; rfl
  have N0 := Fr.nil n0
  apply own_in
  refine own_pre (B := s₁.setTop (mkF m 0 #[.val (.ref a1), .val (.long q2), .second, .val (.int p3), .val (.long q4), .second, .val (.long q5), .second, .val (.ref a6), .val (.ref a7)] [])) (fun t k => castTop (ef_36 m a1 q2 p3 q4 q5 a6 a7) k) ?_
  refine own_pre (B := s₁.setTop (mkF m 1 #[.val (.ref a1), .val (.long q2), .second, .val (.int p3), .val (.long q4), .second, .val (.long q5), .second, .val (.ref a6), .val (.ref a7)] [(.ref a1)])) (fun t k => XS.aloadN X0.here hx rfl (hb hby d36_0) rfl rfl k) ?_
  obtain ⟨T8, X8, e8, st8⟩ := initO X0 hx hZ hown (hw _ (ow 192 rfl)) (hw _ (ow 27 rfl)) (hw _ (ow 28 rfl)) e0 (g := (mkF m 1 #[.val (.ref a1), .val (.long q2), .second, .val (.int p3), .val (.long q4), .second, .val (.long q5), .second, .val (.ref a6), .val (.ref a7)] [(.ref a1)])) rfl (by rw [hml]; rfl) rfl (hb hby d36_1) (by decide) (W := 0) (by show 2 * 0 + _ ≤ _; exact Nat.le_of_eq rfl) (by decide)
  refine own_pre (B := T8.setTop (mkF m 4 #[.val (.ref a1), .val (.long q2), .second, .val (.int p3), .val (.long q4), .second, .val (.long q5), .second, .val (.ref a6), .val (.ref a7)] [])) (fun t k => st8 t k) ?_
  refine own_pre (B := T8.setTop (mkF m 5 #[.val (.ref a1), .val (.long q2), .second, .val (.int p3), .val (.long q4), .second, .val (.long q5), .second, .val (.ref a6), .val (.ref a7)] [(.ref a1)])) (fun t k => XS.aloadN X8.here hx rfl (hb hby d36_4) rfl rfl k) ?_
  refine own_pre (B := T8.setTop (mkF m 6 #[.val (.ref a1), .val (.long q2), .second, .val (.int p3), .val (.long q4), .second, .val (.long q5), .second, .val (.ref a6), .val (.ref a7)] [(.long q2), (.ref a1)])) (fun t k => XS.lloadN X8.here hx rfl (hb hby d36_5) rfl k) ?_
  have K9 : Keep h0 h0 [a1] := (Keep.refl h0 [a1])
  obtain ⟨T10, h10, X10, e10, W10, st10⟩ := putF X8 hx hZ hown (host := "") (Or.inl (hw _ (ow 193 rfl))) Via.refl e8 F_term_a1 E_a1 (Or.inr ⟨(hw _ (ow 194 rfl)), rfl, hnm⟩) (hw _ (ow 9 rfl)) (ty := .long) (by decide) rfl rfl (g := (mkF m 6 #[.val (.ref a1), .val (.long q2), .second, .val (.int p3), .val (.long q4), .second, .val (.long q5), .second, .val (.ref a6), .val (.ref a7)] [(.long q2), (.ref a1)])) rfl rfl (hb hby d36_6)
  have Fw10 := Fld.same W10 F_term_a1
  have N10 := Fr.snoc X10 N0 g_a1
  obtain ⟨Lh11, Xh11, Nh11⟩ := own_hide X10 N10
  refine own_pre (B := T10.setTop (mkF m 9 #[.val (.ref a1), .val (.long q2), .second, .val (.int p3), .val (.long q4), .second, .val (.long q5), .second, .val (.ref a6), .val (.ref a7)] [])) (fun t k => st10 t k) ?_
  refine own_pre (B := T10.setTop (mkF m 10 #[.val (.ref a1), .val (.long q2), .second, .val (.int p3), .val (.long q4), .second, .val (.long q5), .second, .val (.ref a6), .val (.ref a7)] [(.ref a1)])) (fun t k => XS.aloadN Xh11.here hx rfl (hb hby d36_9) rfl rfl k) ?_
  refine own_pre (B := T10.setTop (mkF m 11 #[.val (.ref a1), .val (.long q2), .second, .val (.int p3), .val (.long q4), .second, .val (.long q5), .second, .val (.ref a6), .val (.ref a7)] [(.int p3), (.ref a1)])) (fun t k => XS.iloadN Xh11.here hx rfl (hb hby d36_10) rfl k) ?_
  have c12 := (Exa.wr W10 E_a1)
  have c13 := (Fld.other W10 F_origin_a1 (Or.inr (slot_ne (Or.inr (hw _ (ow 196 rfl))) (Or.inr (hw _ (ow 194 rfl))) (by decide) (t := .int) (t' := .long) (by decide) (by decide))))
  have K14 : Keep h0 h10 [a1] := (Keep.wr K9 W10 (Or.inl (List.mem_of_getElem? (i := 0) rfl)))
  obtain ⟨T15, h15, X15, e15, W15, st15⟩ := putF Xh11 hx hZ hown (host := "") (Or.inl (hw _ (ow 195 rfl))) Via.refl e10 c13 c12 (Or.inr ⟨(hw _ (ow 196 rfl)), rfl, hnm⟩) (hw _ (ow 9 rfl)) (ty := .int) (by decide) rfl rfl (g := (mkF m 11 #[.val (.ref a1), .val (.long q2), .second, .val (.int p3), .val (.long q4), .second, .val (.long q5), .second, .val (.ref a6), .val (.ref a7)] [(.int p3), (.ref a1)])) rfl rfl (hb hby d36_11)
  have Fw15 := Fld.same W15 c13
  have N15 := Fr.snoc X15 Nh11 g_a1
  obtain ⟨Lh16, Xh16, Nh16⟩ := own_hide X15 N15
  refine own_pre (B := T15.setTop (mkF m 14 #[.val (.ref a1), .val (.long q2), .second, .val (.int p3), .val (.long q4), .second, .val (.long q5), .second, .val (.ref a6), .val (.ref a7)] [])) (fun t k => st15 t k) ?_
  refine own_pre (B := T15.setTop (mkF m 15 #[.val (.ref a1), .val (.long q2), .second, .val (.int p3), .val (.long q4), .second, .val (.long q5), .second, .val (.ref a6), .val (.ref a7)] [(.ref a1)])) (fun t k => XS.aloadN Xh16.here hx rfl (hb hby d36_14) rfl rfl k) ?_
  refine own_pre (B := T15.setTop (mkF m 17 #[.val (.ref a1), .val (.long q2), .second, .val (.int p3), .val (.long q4), .second, .val (.long q5), .second, .val (.ref a6), .val (.ref a7)] [(.long q4), (.ref a1)])) (fun t k => XS.lload Xh16.here hx rfl (hb hby d36_15) rfl k) ?_
  have c17 := (Exa.wr W15 c12)
  have c18 := (Fld.other W15 (Fld.other W10 F_boot_a1 (Or.inr (slot_ne (Or.inr (hw _ (ow 198 rfl))) (Or.inr (hw _ (ow 194 rfl))) (by decide) (t := .long) (t' := .long) (by decide) (by decide)))) (Or.inr (slot_ne (Or.inr (hw _ (ow 198 rfl))) (Or.inr (hw _ (ow 196 rfl))) (by decide) (t := .long) (t' := .int) (by decide) (by decide))))
  have K19 : Keep h0 h15 [a1] := (Keep.wr K14 W15 (Or.inl (List.mem_of_getElem? (i := 0) rfl)))
  obtain ⟨T20, h20, X20, e20, W20, st20⟩ := putF Xh16 hx hZ hown (host := "") (Or.inl (hw _ (ow 197 rfl))) Via.refl e15 c18 c17 (Or.inr ⟨(hw _ (ow 198 rfl)), rfl, hnm⟩) (hw _ (ow 9 rfl)) (ty := .long) (by decide) rfl rfl (g := (mkF m 17 #[.val (.ref a1), .val (.long q2), .second, .val (.int p3), .val (.long q4), .second, .val (.long q5), .second, .val (.ref a6), .val (.ref a7)] [(.long q4), (.ref a1)])) rfl rfl (hb hby d36_17)
  have Fw20 := Fld.same W20 c18
  have N20 := Fr.snoc X20 Nh16 g_a1
  obtain ⟨Lh21, Xh21, Nh21⟩ := own_hide X20 N20
  refine own_pre (B := T20.setTop (mkF m 20 #[.val (.ref a1), .val (.long q2), .second, .val (.int p3), .val (.long q4), .second, .val (.long q5), .second, .val (.ref a6), .val (.ref a7)] [])) (fun t k => st20 t k) ?_
  refine own_pre (B := T20.setTop (mkF m 21 #[.val (.ref a1), .val (.long q2), .second, .val (.int p3), .val (.long q4), .second, .val (.long q5), .second, .val (.ref a6), .val (.ref a7)] [(.ref a1)])) (fun t k => XS.aloadN Xh21.here hx rfl (hb hby d36_20) rfl rfl k) ?_
  refine own_pre (B := T20.setTop (mkF m 23 #[.val (.ref a1), .val (.long q2), .second, .val (.int p3), .val (.long q4), .second, .val (.long q5), .second, .val (.ref a6), .val (.ref a7)] [(.long q5), (.ref a1)])) (fun t k => XS.lload Xh21.here hx rfl (hb hby d36_21) rfl k) ?_
  have c22 := (Exa.wr W20 c17)
  have c23 := (Fld.other W20 (Fld.other W15 (Fld.other W10 F_sequence_a1 (Or.inr (slot_ne (Or.inr (hw _ (ow 200 rfl))) (Or.inr (hw _ (ow 194 rfl))) (by decide) (t := .long) (t' := .long) (by decide) (by decide)))) (Or.inr (slot_ne (Or.inr (hw _ (ow 200 rfl))) (Or.inr (hw _ (ow 196 rfl))) (by decide) (t := .long) (t' := .int) (by decide) (by decide)))) (Or.inr (slot_ne (Or.inr (hw _ (ow 200 rfl))) (Or.inr (hw _ (ow 198 rfl))) (by decide) (t := .long) (t' := .long) (by decide) (by decide))))
  have K24 : Keep h0 h20 [a1] := (Keep.wr K19 W20 (Or.inl (List.mem_of_getElem? (i := 0) rfl)))
  obtain ⟨T25, h25, X25, e25, W25, st25⟩ := putF Xh21 hx hZ hown (host := "") (Or.inl (hw _ (ow 199 rfl))) Via.refl e20 c23 c22 (Or.inr ⟨(hw _ (ow 200 rfl)), rfl, hnm⟩) (hw _ (ow 9 rfl)) (ty := .long) (by decide) rfl rfl (g := (mkF m 23 #[.val (.ref a1), .val (.long q2), .second, .val (.int p3), .val (.long q4), .second, .val (.long q5), .second, .val (.ref a6), .val (.ref a7)] [(.long q5), (.ref a1)])) rfl rfl (hb hby d36_23)
  have Fw25 := Fld.same W25 c23
  have N25 := Fr.snoc X25 Nh21 g_a1
  obtain ⟨Lh26, Xh26, Nh26⟩ := own_hide X25 N25
  refine own_pre (B := T25.setTop (mkF m 26 #[.val (.ref a1), .val (.long q2), .second, .val (.int p3), .val (.long q4), .second, .val (.long q5), .second, .val (.ref a6), .val (.ref a7)] [])) (fun t k => st25 t k) ?_
  refine own_pre (B := T25.setTop (mkF m 27 #[.val (.ref a1), .val (.long q2), .second, .val (.int p3), .val (.long q4), .second, .val (.long q5), .second, .val (.ref a6), .val (.ref a7)] [(.ref a1)])) (fun t k => XS.aloadN Xh26.here hx rfl (hb hby d36_26) rfl rfl k) ?_
  refine own_pre (B := T25.setTop (mkF m 29 #[.val (.ref a1), .val (.long q2), .second, .val (.int p3), .val (.long q4), .second, .val (.long q5), .second, .val (.ref a6), .val (.ref a7)] [(.ref a6), (.ref a1)])) (fun t k => XS.aload Xh26.here hx rfl (hb hby d36_27) rfl rfl k) ?_
  have c27 := (Exa.wr W25 c22)
  have c28 := (Fld.other W25 (Fld.other W20 (Fld.other W15 (Fld.other W10 F_command_a1 (Or.inr (slot_ne (Or.inr (hw _ (ow 202 rfl))) (Or.inr (hw _ (ow 194 rfl))) (by decide) (t := (.object "java/lang/String")) (t' := .long) (by decide) (by decide)))) (Or.inr (slot_ne (Or.inr (hw _ (ow 202 rfl))) (Or.inr (hw _ (ow 196 rfl))) (by decide) (t := (.object "java/lang/String")) (t' := .int) (by decide) (by decide)))) (Or.inr (slot_ne (Or.inr (hw _ (ow 202 rfl))) (Or.inr (hw _ (ow 198 rfl))) (by decide) (t := (.object "java/lang/String")) (t' := .long) (by decide) (by decide)))) (Or.inr (slot_ne (Or.inr (hw _ (ow 202 rfl))) (Or.inr (hw _ (ow 200 rfl))) (by decide) (t := (.object "java/lang/String")) (t' := .long) (by decide) (by decide))))
  have K29 : Keep h0 h25 [a1] := (Keep.wr K24 W25 (Or.inl (List.mem_of_getElem? (i := 0) rfl)))
  obtain ⟨T30, h30, X30, e30, W30, st30⟩ := putF Xh26 hx hZ hown (host := "") (Or.inl (hw _ (ow 201 rfl))) Via.refl e25 c28 c27 (Or.inr ⟨(hw _ (ow 202 rfl)), rfl, hnm⟩) (hw _ (ow 9 rfl)) (ty := (.object "java/lang/String")) (by decide) rfl rfl (g := (mkF m 29 #[.val (.ref a1), .val (.long q2), .second, .val (.int p3), .val (.long q4), .second, .val (.long q5), .second, .val (.ref a6), .val (.ref a7)] [(.ref a6), (.ref a1)])) rfl rfl (hb hby d36_29)
  have Fw30 := Fld.same W30 c28
  have N30 := Fr.snoc X30 Nh26 g_a1
  obtain ⟨Lh31, Xh31, Nh31⟩ := own_hide X30 N30
  refine own_pre (B := T30.setTop (mkF m 32 #[.val (.ref a1), .val (.long q2), .second, .val (.int p3), .val (.long q4), .second, .val (.long q5), .second, .val (.ref a6), .val (.ref a7)] [])) (fun t k => st30 t k) ?_
  refine own_pre (B := T30.setTop (mkF m 33 #[.val (.ref a1), .val (.long q2), .second, .val (.int p3), .val (.long q4), .second, .val (.long q5), .second, .val (.ref a6), .val (.ref a7)] [(.ref a1)])) (fun t k => XS.aloadN Xh31.here hx rfl (hb hby d36_32) rfl rfl k) ?_
  refine own_pre (B := T30.setTop (mkF m 35 #[.val (.ref a1), .val (.long q2), .second, .val (.int p3), .val (.long q4), .second, .val (.long q5), .second, .val (.ref a6), .val (.ref a7)] [(.ref a7), (.ref a1)])) (fun t k => XS.aload Xh31.here hx rfl (hb hby d36_33) rfl rfl k) ?_
  have c32 := (Exa.wr W30 c27)
  have c33 := (Fld.other W30 (Fld.other W25 (Fld.other W20 (Fld.other W15 (Fld.other W10 F_text_a1 (Or.inr (slot_ne (Or.inr (hw _ (ow 204 rfl))) (Or.inr (hw _ (ow 194 rfl))) (by decide) (t := (.object "java/lang/String")) (t' := .long) (by decide) (by decide)))) (Or.inr (slot_ne (Or.inr (hw _ (ow 204 rfl))) (Or.inr (hw _ (ow 196 rfl))) (by decide) (t := (.object "java/lang/String")) (t' := .int) (by decide) (by decide)))) (Or.inr (slot_ne (Or.inr (hw _ (ow 204 rfl))) (Or.inr (hw _ (ow 198 rfl))) (by decide) (t := (.object "java/lang/String")) (t' := .long) (by decide) (by decide)))) (Or.inr (slot_ne (Or.inr (hw _ (ow 204 rfl))) (Or.inr (hw _ (ow 200 rfl))) (by decide) (t := (.object "java/lang/String")) (t' := .long) (by decide) (by decide)))) (Or.inr (slot_ne (Or.inr (hw _ (ow 204 rfl))) (Or.inr (hw _ (ow 202 rfl))) (by decide) (t := (.object "java/lang/String")) (t' := (.object "java/lang/String")) (by decide) (by decide))))
  have K34 : Keep h0 h30 [a1] := (Keep.wr K29 W30 (Or.inl (List.mem_of_getElem? (i := 0) rfl)))
  obtain ⟨T35, h35, X35, e35, W35, st35⟩ := putF Xh31 hx hZ hown (host := "") (Or.inl (hw _ (ow 203 rfl))) Via.refl e30 c33 c32 (Or.inr ⟨(hw _ (ow 204 rfl)), rfl, hnm⟩) (hw _ (ow 9 rfl)) (ty := (.object "java/lang/String")) (by decide) rfl rfl (g := (mkF m 35 #[.val (.ref a1), .val (.long q2), .second, .val (.int p3), .val (.long q4), .second, .val (.long q5), .second, .val (.ref a6), .val (.ref a7)] [(.ref a7), (.ref a1)])) rfl rfl (hb hby d36_35)
  have Fw35 := Fld.same W35 c33
  have N35 := Fr.snoc X35 Nh31 g_a1
  obtain ⟨Lh36, Xh36, Nh36⟩ := own_hide X35 N35
  refine own_pre (B := T35.setTop (mkF m 38 #[.val (.ref a1), .val (.long q2), .second, .val (.int p3), .val (.long q4), .second, .val (.long q5), .second, .val (.ref a6), .val (.ref a7)] [])) (fun t k => st35 t k) ?_
  have K37 : Keep h0 h35 [a1] := (Keep.wr K34 W35 (Or.inl (List.mem_of_getElem? (i := 0) rfl)))
  have c38 := (Exa.wr W35 c32)
  have c39 := (Fld.other W35 (Fld.other W30 (Fld.other W25 (Fld.other W20 (Fld.other W15 Fw10 (Or.inr (slot_ne (Or.inr (hw _ (ow 194 rfl))) (Or.inr (hw _ (ow 196 rfl))) (by decide) (t := .long) (t' := .int) (by decide) (by decide)))) (Or.inr (slot_ne (Or.inr (hw _ (ow 194 rfl))) (Or.inr (hw _ (ow 198 rfl))) (by decide) (t := .long) (t' := .long) (by decide) (by decide)))) (Or.inr (slot_ne (Or.inr (hw _ (ow 194 rfl))) (Or.inr (hw _ (ow 200 rfl))) (by decide) (t := .long) (t' := .long) (by decide) (by decide)))) (Or.inr (slot_ne (Or.inr (hw _ (ow 194 rfl))) (Or.inr (hw _ (ow 202 rfl))) (by decide) (t := .long) (t' := (.object "java/lang/String")) (by decide) (by decide)))) (Or.inr (slot_ne (Or.inr (hw _ (ow 194 rfl))) (Or.inr (hw _ (ow 204 rfl))) (by decide) (t := .long) (t' := (.object "java/lang/String")) (by decide) (by decide))))
  have c40 := (Fld.other W35 (Fld.other W30 (Fld.other W25 (Fld.other W20 Fw15 (Or.inr (slot_ne (Or.inr (hw _ (ow 196 rfl))) (Or.inr (hw _ (ow 198 rfl))) (by decide) (t := .int) (t' := .long) (by decide) (by decide)))) (Or.inr (slot_ne (Or.inr (hw _ (ow 196 rfl))) (Or.inr (hw _ (ow 200 rfl))) (by decide) (t := .int) (t' := .long) (by decide) (by decide)))) (Or.inr (slot_ne (Or.inr (hw _ (ow 196 rfl))) (Or.inr (hw _ (ow 202 rfl))) (by decide) (t := .int) (t' := (.object "java/lang/String")) (by decide) (by decide)))) (Or.inr (slot_ne (Or.inr (hw _ (ow 196 rfl))) (Or.inr (hw _ (ow 204 rfl))) (by decide) (t := .int) (t' := (.object "java/lang/String")) (by decide) (by decide))))
  have c41 := (Fld.other W35 (Fld.other W30 (Fld.other W25 Fw20 (Or.inr (slot_ne (Or.inr (hw _ (ow 198 rfl))) (Or.inr (hw _ (ow 200 rfl))) (by decide) (t := .long) (t' := .long) (by decide) (by decide)))) (Or.inr (slot_ne (Or.inr (hw _ (ow 198 rfl))) (Or.inr (hw _ (ow 202 rfl))) (by decide) (t := .long) (t' := (.object "java/lang/String")) (by decide) (by decide)))) (Or.inr (slot_ne (Or.inr (hw _ (ow 198 rfl))) (Or.inr (hw _ (ow 204 rfl))) (by decide) (t := .long) (t' := (.object "java/lang/String")) (by decide) (by decide))))
  have c42 := (Fld.other W35 (Fld.other W30 Fw25 (Or.inr (slot_ne (Or.inr (hw _ (ow 200 rfl))) (Or.inr (hw _ (ow 202 rfl))) (by decide) (t := .long) (t' := (.object "java/lang/String")) (by decide) (by decide)))) (Or.inr (slot_ne (Or.inr (hw _ (ow 200 rfl))) (Or.inr (hw _ (ow 204 rfl))) (by decide) (t := .long) (t' := (.object "java/lang/String")) (by decide) (by decide))))
  have c43 := (Fld.other W35 Fw30 (Or.inr (slot_ne (Or.inr (hw _ (ow 202 rfl))) (Or.inr (hw _ (ow 204 rfl))) (by decide) (t := (.object "java/lang/String")) (t' := (.object "java/lang/String")) (by decide) (by decide))))
  obtain ⟨fsr44, hrr44, hrunr44, hendedr44, hWr44, hsamer44⟩ := Xh36.leave (v := none) (fun _ => rfl)
  refine ⟨_, _, (Xh36.returnOut hx Bd.returns (hb hby d36_38) hrr44), hrunr44, hendedr44, _, _, rfl, ?_, ⟨_, rfl⟩, hWr44, hsamer44.mono (by decide) (by decide)⟩
  show Q36 Z a1 q2 p3 q4 q5 a6 a7 u_term_a1 u_origin_a1 u_boot_a1 u_sequence_a1 u_command_a1 u_text_a1 h0 n0 _ T35.heap _
  rw [e35]
  exact ⟨rfl, Nh36, K37, c38, c39, c40, c41, c42, c43, Fw35⟩
theorem d38_0 : decode prog_37_method_10_code 0 = .ok (.aload_n 0, 1) := by decide +kernel
theorem d38_1 : decode prog_37_method_10_code 1 = .ok (.getfield 35, 3) := by decide +kernel
theorem d38_4 : decode prog_37_method_10_code 4 = .ok (.ifCond .ne 7, 3) := by decide +kernel
theorem d38_7 : decode prog_37_method_10_code 7 = .ok (.iconst 1, 1) := by decide +kernel
theorem d38_8 : decode prog_37_method_10_code 8 = .ok (.goto 4, 3) := by decide +kernel
theorem d38_11 : decode prog_37_method_10_code 11 = .ok (.iconst 0, 1) := by decide +kernel
theorem d38_12 : decode prog_37_method_10_code 12 = .ok (.ireturn, 1) := by decide +kernel
theorem pn_38 : plainName "com/example/internode_coordination/internodecoordination/member/LogEntry" = true := by first | (simp [plainName, overriddenIn]; done) | decide +kernel
theorem ef_38 (m : MethodId) (x0 : Addr) : entryFrame m #[(.ref x0)] 1 = mkF m 0 #[.val (.ref x0)] [] := by first | (simp [entryFrame, mkF, argsToLocals, Value.category]; done) | rfl
def own_f38 (w_origin_a1 : Int32) : Int32 := (if w_origin_a1 = (0 : Int32) then (1 : Int32) else (0 : Int32))
def Q38 (Z : State) (a1 : Addr) (w_origin_a1 : Int32) (h0 : Heap) (n0 : Nat) (v : Option Value) (h : Heap) (L : List Loc) : Prop := v = some (.int (own_f38 w_origin_a1)) ∧ Fr n0 L ∧ h = h0
set_option maxRecDepth 65536 in
set_option maxHeartbeats 40000000 in
theorem rm38 (l : Launch) (Z : State) (a0 : Array Value) (hw : ∀ d ∈ tables_1, d.before a0 Z = true) (ws : List Jvm.Cond) (a1 : Addr) (w_origin_a1 : Int32) (h0 : Heap) (n0 : Nat) (Z0 : n0 ≤ h0.size) (F_origin_a1 : Fld Z h0 a1 "com/example/internode_coordination/internodecoordination/member/LogEntry" "origin" "I" (.int w_origin_a1)) :
    MetFree l (⟨"com/example/internode_coordination/internodecoordination/member/LogEntry", "isNoOperation", "()Z"⟩ : MethodName) (head1 (Jvm.Cond.code (⟨"com/example/internode_coordination/internodecoordination/member/LogEntry", "isNoOperation", "()Z"⟩ : MethodName) prog_37_method_10_code 1 (some .boolean) :: ws) ({ frames := 0, cells := 0, slots := 0, locals := 0 } : Room)) (fun a U => a = #[(.ref a1)] ∧ Z.Warmed39 U.vm ∧ U.heap = h0) (fun _ _ _ _ _ => True) (fun _ U o U' => ∃ v L, o = .returned v ∧ Q38 Z a1 w_origin_a1 h0 n0 v U'.heap L ∧ FrameEnd U o U' L ({ frames := 0, cells := 0, slots := 0, locals := 0 } : Room).cells ({ frames := 0, cells := 0, slots := 0, locals := 0 } : Room).slots) := by
  refine MetFree.of_bodySF (plainFor_of_name pn_38) hisR ?_
  intro p e s m args below meth c s₁ Bd hml0 hP hK
  obtain ⟨rfl, hZ, hh⟩ := hP
  have hx := Bd.exec
  have hby := Bd.bytes
  have hml : c.maxLocals = 1 := hml0
  have hown : s.vm.findClass "com/example/internode_coordination/internodecoordination/member/LogEntry" = some m.cls := findClass_of_methodNamed Bd.named
  have hnm := (name_of_methodNamed Bd.named Bd.method).1
  have X0 : Stand p l e ({ frames := 0, cells := 0, slots := 0, locals := 0 } : Room) s m #[(.ref a1)] below meth c s₁ [] 0 0 := Stand.of_body Bd
  have e0 : s₁.heap = h0 := by rw [← hh, Bd.state]; rfl
  have N0 := Fr.nil n0
  apply own_in
  refine own_pre (B := s₁.setTop (mkF m 0 #[.val (.ref a1)] [])) (fun t k => castTop (ef_38 m a1) k) ?_
  refine own_pre (B := s₁.setTop (mkF m 1 #[.val (.ref a1)] [(.ref a1)])) (fun t k => XS.aloadN X0.here hx rfl (hb hby d38_0) rfl rfl k) ?_
  obtain ⟨T2, X2, e2, st2⟩ := getF X0 hx hZ hown (host := "") (Or.inl (hw _ (ow 195 rfl))) Via.refl e0 F_origin_a1 (g := (mkF m 1 #[.val (.ref a1)] [(.ref a1)])) rfl rfl (hb hby d38_1)
  refine own_pre (B := T2.setTop (mkF m 4 #[.val (.ref a1)] [(.int w_origin_a1)])) (fun t k => st2 t k) ?_
  by_cases hc4_3 : w_origin_a1 = (0 : Int32)
  · refine own_pre (B := T2.setTop (mkF m 7 #[.val (.ref a1)] [])) (fun t k => XS.ifNo X2.here hx rfl (hb hby d38_4) rfl ((if0 _ _).trans (teq hc4_3).2) k) ?_
    refine own_pre (B := T2.setTop (mkF m 8 #[.val (.ref a1)] [(.int (1 : Int32))])) (fun t k => XS.iconst X2.here hx rfl (hb hby d38_7) k) ?_
    refine own_pre (B := T2.setTop (mkF m 12 #[.val (.ref a1)] [(.int (1 : Int32))])) (fun t k => XS.goto X2.here hx rfl (pc0 := 8) (pc' := 12) rfl (hb hby d38_8) (by decide) (by decide) k) ?_
    obtain ⟨fsr4, hrr4, hrunr4, hendedr4, hWr4, hsamer4⟩ := X2.leave (v := some (.int (1 : Int32))) (fun h => by rw [Bd.returns] at h; cases h)
    refine ⟨_, _, (retN X2 hx (t := .boolean) Bd.returns (by simp) (hb hby d38_12) hrr4), hrunr4, hendedr4, _, _, rfl, ?_, ⟨_, rfl⟩, hWr4, hsamer4.mono (by decide) (by decide)⟩
    show Q38 Z a1 w_origin_a1 h0 n0 _ T2.heap _
    rw [e2]
    exact ⟨(by unfold own_f38; rw [if_pos hc4_3]), N0, rfl⟩
  · refine own_pre (B := T2.setTop (mkF m 11 #[.val (.ref a1)] [])) (fun t k => XS.ifYes X2.here hx rfl (pc0 := 4) (pc' := 11) rfl (hb hby d38_4) rfl ((if0 _ _).trans (feq hc4_3).2) (by decide) (by decide) k) ?_
    refine own_pre (B := T2.setTop (mkF m 12 #[.val (.ref a1)] [(.int (0 : Int32))])) (fun t k => XS.iconst X2.here hx rfl (hb hby d38_11) k) ?_
    obtain ⟨fsr5, hrr5, hrunr5, hendedr5, hWr5, hsamer5⟩ := X2.leave (v := some (.int (0 : Int32))) (fun h => by rw [Bd.returns] at h; cases h)
    refine ⟨_, _, (retN X2 hx (t := .boolean) Bd.returns (by simp) (hb hby d38_12) hrr5), hrunr5, hendedr5, _, _, rfl, ?_, ⟨_, rfl⟩, hWr5, hsamer5.mono (by decide) (by decide)⟩
    show Q38 Z a1 w_origin_a1 h0 n0 _ T2.heap _
    rw [e2]
    exact ⟨(by unfold own_f38; rw [if_neg hc4_3]), N0, rfl⟩
theorem d42_0 : decode jdk_52_method_21_code 0 = .ok (.iconst 0, 1) := by decide +kernel
theorem d42_1 : decode jdk_52_method_21_code 1 = .ok (.istore 5, 2) := by decide +kernel
theorem d42_3 : decode jdk_52_method_21_code 3 = .ok (.iload 5, 2) := by decide +kernel
theorem d42_5 : decode jdk_52_method_21_code 5 = .ok (.iload 4, 2) := by decide +kernel
theorem d42_7 : decode jdk_52_method_21_code 7 = .ok (.if_icmp .ge 37, 3) := by decide +kernel
theorem d42_10 : decode jdk_52_method_21_code 10 = .ok (.aload_n 0, 1) := by decide +kernel
theorem d42_11 : decode jdk_52_method_21_code 11 = .ok (.iload_n 1, 1) := by decide +kernel
theorem d42_12 : decode jdk_52_method_21_code 12 = .ok (.caload, 1) := by decide +kernel
theorem d42_13 : decode jdk_52_method_21_code 13 = .ok (.istore 6, 2) := by decide +kernel
theorem d42_15 : decode jdk_52_method_21_code 15 = .ok (.iload 6, 2) := by decide +kernel
theorem d42_17 : decode jdk_52_method_21_code 17 = .ok (.sipush 255, 3) := by decide +kernel
theorem d42_20 : decode jdk_52_method_21_code 20 = .ok (.if_icmp .le 6, 3) := by decide +kernel
theorem d42_26 : decode jdk_52_method_21_code 26 = .ok (.aload_n 2, 1) := by decide +kernel
theorem d42_27 : decode jdk_52_method_21_code 27 = .ok (.iload_n 3, 1) := by decide +kernel
theorem d42_28 : decode jdk_52_method_21_code 28 = .ok (.iload 6, 2) := by decide +kernel
theorem d42_30 : decode jdk_52_method_21_code 30 = .ok (.i2b, 1) := by decide +kernel
theorem d42_31 : decode jdk_52_method_21_code 31 = .ok (.bastore, 1) := by decide +kernel
theorem d42_32 : decode jdk_52_method_21_code 32 = .ok (.iinc 1 1, 3) := by decide +kernel
theorem d42_35 : decode jdk_52_method_21_code 35 = .ok (.iinc 3 1, 3) := by decide +kernel
theorem d42_38 : decode jdk_52_method_21_code 38 = .ok (.iinc 5 1, 3) := by decide +kernel
theorem d42_41 : decode jdk_52_method_21_code 41 = .ok (.goto (-38), 3) := by decide +kernel
theorem d42_44 : decode jdk_52_method_21_code 44 = .ok (.iload 4, 2) := by decide +kernel
theorem d42_46 : decode jdk_52_method_21_code 46 = .ok (.ireturn, 1) := by decide +kernel
theorem pn_42 : plainName "java/lang/StringUTF16" = true := by first | (simp [plainName, overriddenIn]; done) | decide +kernel
theorem ef_42 (m : MethodId) (x0 : Addr) (x2 : Addr) : entryFrame m #[(.ref x0), (.int (0 : Int32)), (.ref x2), (.int (0 : Int32)), (.int (2 : Int32))] 7 = mkF m 0 #[.val (.ref x0), .val (.int (0 : Int32)), .val (.ref x2), .val (.int (0 : Int32)), .val (.int (2 : Int32)), .unset, .unset] [] := by first | (simp [entryFrame, mkF, argsToLocals, Value.category]; done) | rfl
def Q42 (Z : State) (a1 : Addr) (a2 : Addr) (k_a1 : ClassId) (c0 : Int32) (c1 : Int32) (k_a2 : ClassId) (t0 : Int32) (t1 : Int32) (h0 : Heap) (n0 : Nat) (v : Option Value) (h : Heap) (L : List Loc) : Prop := v = some (.int (2 : Int32)) ∧ Fr n0 L ∧ Keep h0 h [a2] ∧ Arv Z h a2 k_a2 .byte (2 : Int32) [(.int (nar .byte (c0.toInt8.toInt32))), (.int (nar .byte (c1.toInt8.toInt32)))] (.int (0 : Int32))
set_option maxRecDepth 65536 in
set_option maxHeartbeats 40000000 in
theorem rm42 (l : Launch) (Z : State) (a0 : Array Value) (hw : ∀ d ∈ tables_1, d.before a0 Z = true) (ws : List Jvm.Cond) (a1 : Addr) (a2 : Addr) (k_a1 : ClassId) (c0 : Int32) (c1 : Int32) (k_a2 : ClassId) (t0 : Int32) (t1 : Int32) (h0 : Heap) (n0 : Nat) (Z0 : n0 ≤ h0.size) (V_a1 : Arv Z h0 a1 k_a1 .char (2 : Int32) [(.int c0), (.int c1)] (.int (0 : Int32))) (hc0 : ¬ (255 : Int32) < c0) (hc1 : ¬ (255 : Int32) < c1) (V_a2 : Arv Z h0 a2 k_a2 .byte (2 : Int32) [(.int t0), (.int t1)] (.int (0 : Int32))) (ne_a1_a2 : a1 ≠ a2) (g_a2 : n0 ≤ a2) :
    MetFree l (⟨"java/lang/StringUTF16", "compress", "([CI[BII)I"⟩ : MethodName) (head1 (Jvm.Cond.code (⟨"java/lang/StringUTF16", "compress", "([CI[BII)I"⟩ : MethodName) jdk_52_method_21_code 7 (some .int) :: ws) ({ frames := 0, cells := 0, slots := 0, locals := 0 } : Room)) (fun a U => a = #[(.ref a1), (.int (0 : Int32)), (.ref a2), (.int (0 : Int32)), (.int (2 : Int32))] ∧ Z.Warmed39 U.vm ∧ U.heap = h0) (fun _ _ _ _ _ => True) (fun _ U o U' => ∃ v L, o = .returned v ∧ Q42 Z a1 a2 k_a1 c0 c1 k_a2 t0 t1 h0 n0 v U'.heap L ∧ FrameEnd U o U' L ({ frames := 0, cells := 0, slots := 0, locals := 0 } : Room).cells ({ frames := 0, cells := 0, slots := 0, locals := 0 } : Room).slots) := by
  refine MetFree.of_bodySF (plainFor_of_name pn_42) hisR ?_
  intro p e s m args below meth c s₁ Bd hml0 hP hK
  obtain ⟨rfl, hZ, hh⟩ := hP
  have hx := Bd.exec
  have hby := Bd.bytes
  have hml : c.maxLocals = 7 := hml0
  have hown : s.vm.findClass "java/lang/StringUTF16" = some m.cls := findClass_of_methodNamed Bd.named
  have hnm := (name_of_methodNamed Bd.named Bd.method).1
  have X0 : Stand p l e ({ frames := 0, cells := 0, slots := 0, locals := 0 } : Room) s m #[(.ref a1), (.int (0 : Int32)), (.ref a2), (.int (0 : Int32)), (.int (2 : Int32))] below meth c s₁ [] 0 0 := Stand.of_body Bd
  have e0 : s₁.heap = h0 := by rw [← hh, Bd.state]; rfl
  have N0 := Fr.nil n0
  apply own_in
  refine own_pre (B := s₁.setTop (mkF m 0 #[.val (.ref a1), .val (.int (0 : Int32)), .val (.ref a2), .val (.int (0 : Int32)), .val (.int (2 : Int32)), .unset, .unset] [])) (fun t k => castTop (ef_42 m a1 a2) k) ?_
  refine own_pre (B := s₁.setTop (mkF m 1 #[.val (.ref a1), .val (.int (0 : Int32)), .val (.ref a2), .val (.int (0 : Int32)), .val (.int (2 : Int32)), .unset, .unset] [(.int (0 : Int32))])) (fun t k => XS.iconst X0.here hx rfl (hb hby d42_0) k) ?_
  refine own_pre (B := s₁.setTop (mkF m 3 #[.val (.ref a1), .val (.int (0 : Int32)), .val (.ref a2), .val (.int (0 : Int32)), .val (.int (2 : Int32)), .val (.int (0 : Int32)), .unset] [])) (fun t k => XS.istore X0.here hx rfl (hb hby d42_1) rfl (l' := #[.val (.ref a1), .val (.int (0 : Int32)), .val (.ref a2), .val (.int (0 : Int32)), .val (.int (2 : Int32)), .val (.int (0 : Int32)), .unset]) rfl k) ?_
  refine own_pre (B := s₁.setTop (mkF m 5 #[.val (.ref a1), .val (.int (0 : Int32)), .val (.ref a2), .val (.int (0 : Int32)), .val (.int (2 : Int32)), .val (.int (0 : Int32)), .unset] [(.int (0 : Int32))])) (fun t k => XS.iload X0.here hx rfl (hb hby d42_3) rfl k) ?_
  refine own_pre (B := s₁.setTop (mkF m 7 #[.val (.ref a1), .val (.int (0 : Int32)), .val (.ref a2), .val (.int (0 : Int32)), .val (.int (2 : Int32)), .val (.int (0 : Int32)), .unset] [(.int (2 : Int32)), (.int (0 : Int32))])) (fun t k => XS.iload X0.here hx rfl (hb hby d42_5) rfl k) ?_
  refine own_pre (B := s₁.setTop (mkF m 10 #[.val (.ref a1), .val (.int (0 : Int32)), .val (.ref a2), .val (.int (0 : Int32)), .val (.int (2 : Int32)), .val (.int (0 : Int32)), .unset] [])) (fun t k => XS.icmpNo X0.here hx rfl (hb hby d42_7) rfl (tlt (by decide : (0 : Int32) < (2 : Int32))).2.1 k) ?_
  refine own_pre (B := s₁.setTop (mkF m 11 #[.val (.ref a1), .val (.int (0 : Int32)), .val (.ref a2), .val (.int (0 : Int32)), .val (.int (2 : Int32)), .val (.int (0 : Int32)), .unset] [(.ref a1)])) (fun t k => XS.aloadN X0.here hx rfl (hb hby d42_10) rfl rfl k) ?_
  refine own_pre (B := s₁.setTop (mkF m 12 #[.val (.ref a1), .val (.int (0 : Int32)), .val (.ref a2), .val (.int (0 : Int32)), .val (.int (2 : Int32)), .val (.int (0 : Int32)), .unset] [(.int (0 : Int32)), (.ref a1)])) (fun t k => XS.iloadN X0.here hx rfl (hb hby d42_11) rfl k) ?_
  obtain ⟨cl3, Ar3, q3, S3, N3v, H3v, G3v⟩ := V_a1
  have V_a1 : Arv Z h0 a1 k_a1 .char (2 : Int32) [(.int c0), (.int c1)] (.int (0 : Int32)) := ⟨cl3, Ar3, q3, S3, N3v, H3v, G3v⟩
  have hin3 : ¬ ((0 : Int32) < 0 ∨ cl3.slots.size ≤ ((0 : Int32)).toNatClampNeg) := inb_of S3 ⟨by decide, by decide⟩
  have hat3 : cl3.slots[((0 : Int32)).toNatClampNeg]? = some (.int c0) := H3v.at hin3 rfl
  refine own_pre (B := s₁.setTop (mkF m 13 #[.val (.ref a1), .val (.int (0 : Int32)), .val (.ref a2), .val (.int (0 : Int32)), .val (.int (2 : Int32)), .val (.int (0 : Int32)), .unset] [(.int c0)])) (fun t k => X0.caload hx (j := (0 : Int32)) (v := (.int c0)) (by rw [e0]; exact Ar3.1) (State.isArrayOf_alike hZ.alike Ar3.2.1) Ar3.2.2 hin3 hat3 (g := (mkF m 12 #[.val (.ref a1), .val (.int (0 : Int32)), .val (.ref a2), .val (.int (0 : Int32)), .val (.int (2 : Int32)), .val (.int (0 : Int32)), .unset] [(.int (0 : Int32)), (.ref a1)])) rfl rfl (hb hby d42_12) t k) ?_
  refine own_pre (B := s₁.setTop (mkF m 15 #[.val (.ref a1), .val (.int (0 : Int32)), .val (.ref a2), .val (.int (0 : Int32)), .val (.int (2 : Int32)), .val (.int (0 : Int32)), .val (.int c0)] [])) (fun t k => XS.istore X0.here hx rfl (hb hby d42_13) rfl (l' := #[.val (.ref a1), .val (.int (0 : Int32)), .val (.ref a2), .val (.int (0 : Int32)), .val (.int (2 : Int32)), .val (.int (0 : Int32)), .val (.int c0)]) rfl k) ?_
  refine own_pre (B := s₁.setTop (mkF m 17 #[.val (.ref a1), .val (.int (0 : Int32)), .val (.ref a2), .val (.int (0 : Int32)), .val (.int (2 : Int32)), .val (.int (0 : Int32)), .val (.int c0)] [(.int c0)])) (fun t k => XS.iload X0.here hx rfl (hb hby d42_15) rfl k) ?_
  refine own_pre (B := s₁.setTop (mkF m 20 #[.val (.ref a1), .val (.int (0 : Int32)), .val (.ref a2), .val (.int (0 : Int32)), .val (.int (2 : Int32)), .val (.int (0 : Int32)), .val (.int c0)] [(.int (255 : Int32)), (.int c0)])) (fun t k => XS.sipush X0.here hx rfl (hb hby d42_17) k) ?_
  refine own_pre (B := s₁.setTop (mkF m 26 #[.val (.ref a1), .val (.int (0 : Int32)), .val (.ref a2), .val (.int (0 : Int32)), .val (.int (2 : Int32)), .val (.int (0 : Int32)), .val (.int c0)] [])) (fun t k => XS.icmpYes X0.here hx rfl (pc0 := 20) (pc' := 26) rfl (hb hby d42_20) rfl (flt hc0).2.2.2 (by decide) (by decide) k) ?_
  refine own_pre (B := s₁.setTop (mkF m 27 #[.val (.ref a1), .val (.int (0 : Int32)), .val (.ref a2), .val (.int (0 : Int32)), .val (.int (2 : Int32)), .val (.int (0 : Int32)), .val (.int c0)] [(.ref a2)])) (fun t k => XS.aloadN X0.here hx rfl (hb hby d42_26) rfl rfl k) ?_
  refine own_pre (B := s₁.setTop (mkF m 28 #[.val (.ref a1), .val (.int (0 : Int32)), .val (.ref a2), .val (.int (0 : Int32)), .val (.int (2 : Int32)), .val (.int (0 : Int32)), .val (.int c0)] [(.int (0 : Int32)), (.ref a2)])) (fun t k => XS.iloadN X0.here hx rfl (hb hby d42_27) rfl k) ?_
  refine own_pre (B := s₁.setTop (mkF m 30 #[.val (.ref a1), .val (.int (0 : Int32)), .val (.ref a2), .val (.int (0 : Int32)), .val (.int (2 : Int32)), .val (.int (0 : Int32)), .val (.int c0)] [(.int c0), (.int (0 : Int32)), (.ref a2)])) (fun t k => XS.iload X0.here hx rfl (hb hby d42_28) rfl k) ?_
  refine own_pre (B := s₁.setTop (mkF m 31 #[.val (.ref a1), .val (.int (0 : Int32)), .val (.ref a2), .val (.int (0 : Int32)), .val (.int (2 : Int32)), .val (.int (0 : Int32)), .val (.int c0)] [(.int (c0.toInt8.toInt32)), (.int (0 : Int32)), (.ref a2)])) (fun t k => XS.i2b X0.here hx rfl (hb hby d42_30) rfl k) ?_
  have K4 : Keep h0 h0 [a2] := (Keep.refl h0 [a2])
  obtain ⟨cl5, Ar5, q5, S5, N5v, H5v, G5v⟩ := V_a2
  have V_a2 : Arv Z h0 a2 k_a2 .byte (2 : Int32) [(.int t0), (.int t1)] (.int (0 : Int32)) := ⟨cl5, Ar5, q5, S5, N5v, H5v, G5v⟩
  have hin5 : ¬ ((0 : Int32) < 0 ∨ cl5.slots.size ≤ ((0 : Int32)).toNatClampNeg) := inb_of S5 ⟨by decide, by decide⟩
  obtain ⟨T6, h6, X6, e6, W6, st6⟩ := stB X0 hx hZ e0 Ar5 (j := (0 : Int32)) hin5 (g := (mkF m 31 #[.val (.ref a1), .val (.int (0 : Int32)), .val (.ref a2), .val (.int (0 : Int32)), .val (.int (2 : Int32)), .val (.int (0 : Int32)), .val (.int c0)] [(.int (c0.toInt8.toInt32)), (.int (0 : Int32)), (.ref a2)])) rfl rfl (hb hby d42_31)
  have V6 : Arv Z h6 a2 k_a2 .byte (2 : Int32) [(.int (nar .byte (c0.toInt8.toInt32))), (.int t1)] (.int (0 : Int32)) := Arv.set Ar5 q5 S5 N5v H5v G5v (fits_nar_byte _) W6 0 rfl (Nat.le_of_ble_eq_true rfl)
  have N6 := Fr.snoc X6 N0 g_a2
  obtain ⟨Lh7, Xh7, Nh7⟩ := own_hide X6 N6
  refine own_pre (B := T6.setTop (mkF m 32 #[.val (.ref a1), .val (.int (0 : Int32)), .val (.ref a2), .val (.int (0 : Int32)), .val (.int (2 : Int32)), .val (.int (0 : Int32)), .val (.int c0)] [])) (fun t k => st6 t k) ?_
  refine own_pre (B := T6.setTop (mkF m 35 #[.val (.ref a1), .val (.int (1 : Int32)), .val (.ref a2), .val (.int (0 : Int32)), .val (.int (2 : Int32)), .val (.int (0 : Int32)), .val (.int c0)] [])) (fun t k => XS.iinc Xh7.here hx rfl (hb hby d42_32) rfl (l' := #[.val (.ref a1), .val (.int (1 : Int32)), .val (.ref a2), .val (.int (0 : Int32)), .val (.int (2 : Int32)), .val (.int (0 : Int32)), .val (.int c0)]) rfl k) ?_
  refine own_pre (B := T6.setTop (mkF m 38 #[.val (.ref a1), .val (.int (1 : Int32)), .val (.ref a2), .val (.int (1 : Int32)), .val (.int (2 : Int32)), .val (.int (0 : Int32)), .val (.int c0)] [])) (fun t k => XS.iinc Xh7.here hx rfl (hb hby d42_35) rfl (l' := #[.val (.ref a1), .val (.int (1 : Int32)), .val (.ref a2), .val (.int (1 : Int32)), .val (.int (2 : Int32)), .val (.int (0 : Int32)), .val (.int c0)]) rfl k) ?_
  refine own_pre (B := T6.setTop (mkF m 41 #[.val (.ref a1), .val (.int (1 : Int32)), .val (.ref a2), .val (.int (1 : Int32)), .val (.int (2 : Int32)), .val (.int (1 : Int32)), .val (.int c0)] [])) (fun t k => XS.iinc Xh7.here hx rfl (hb hby d42_38) rfl (l' := #[.val (.ref a1), .val (.int (1 : Int32)), .val (.ref a2), .val (.int (1 : Int32)), .val (.int (2 : Int32)), .val (.int (1 : Int32)), .val (.int c0)]) rfl k) ?_
  refine own_pre (B := T6.setTop (mkF m 3 #[.val (.ref a1), .val (.int (1 : Int32)), .val (.ref a2), .val (.int (1 : Int32)), .val (.int (2 : Int32)), .val (.int (1 : Int32)), .val (.int c0)] [])) (fun t k => XS.goto Xh7.here hx rfl (pc0 := 41) (pc' := 3) rfl (hb hby d42_41) (by decide) (by decide) k) ?_
  refine own_pre (B := T6.setTop (mkF m 5 #[.val (.ref a1), .val (.int (1 : Int32)), .val (.ref a2), .val (.int (1 : Int32)), .val (.int (2 : Int32)), .val (.int (1 : Int32)), .val (.int c0)] [(.int (1 : Int32))])) (fun t k => XS.iload Xh7.here hx rfl (hb hby d42_3) rfl k) ?_
  refine own_pre (B := T6.setTop (mkF m 7 #[.val (.ref a1), .val (.int (1 : Int32)), .val (.ref a2), .val (.int (1 : Int32)), .val (.int (2 : Int32)), .val (.int (1 : Int32)), .val (.int c0)] [(.int (2 : Int32)), (.int (1 : Int32))])) (fun t k => XS.iload Xh7.here hx rfl (hb hby d42_5) rfl k) ?_
  refine own_pre (B := T6.setTop (mkF m 10 #[.val (.ref a1), .val (.int (1 : Int32)), .val (.ref a2), .val (.int (1 : Int32)), .val (.int (2 : Int32)), .val (.int (1 : Int32)), .val (.int c0)] [])) (fun t k => XS.icmpNo Xh7.here hx rfl (hb hby d42_7) rfl (tlt (by decide : (1 : Int32) < (2 : Int32))).2.1 k) ?_
  refine own_pre (B := T6.setTop (mkF m 11 #[.val (.ref a1), .val (.int (1 : Int32)), .val (.ref a2), .val (.int (1 : Int32)), .val (.int (2 : Int32)), .val (.int (1 : Int32)), .val (.int c0)] [(.ref a1)])) (fun t k => XS.aloadN Xh7.here hx rfl (hb hby d42_10) rfl rfl k) ?_
  refine own_pre (B := T6.setTop (mkF m 12 #[.val (.ref a1), .val (.int (1 : Int32)), .val (.ref a2), .val (.int (1 : Int32)), .val (.int (2 : Int32)), .val (.int (1 : Int32)), .val (.int c0)] [(.int (1 : Int32)), (.ref a1)])) (fun t k => XS.iloadN Xh7.here hx rfl (hb hby d42_11) rfl k) ?_
  have c8 := (Arv.other V_a1 W6 ne_a1_a2)
  obtain ⟨cl9, Ar9, q9, S9, N9v, H9v, G9v⟩ := c8
  have c8 : Arv Z h6 a1 k_a1 .char (2 : Int32) [(.int c0), (.int c1)] (.int (0 : Int32)) := ⟨cl9, Ar9, q9, S9, N9v, H9v, G9v⟩
  have hin9 : ¬ ((1 : Int32) < 0 ∨ cl9.slots.size ≤ ((1 : Int32)).toNatClampNeg) := inb_of S9 ⟨by decide, by decide⟩
  have hat9 : cl9.slots[((1 : Int32)).toNatClampNeg]? = some (.int c1) := H9v.at hin9 rfl
  refine own_pre (B := T6.setTop (mkF m 13 #[.val (.ref a1), .val (.int (1 : Int32)), .val (.ref a2), .val (.int (1 : Int32)), .val (.int (2 : Int32)), .val (.int (1 : Int32)), .val (.int c0)] [(.int c1)])) (fun t k => Xh7.caload hx (j := (1 : Int32)) (v := (.int c1)) (by rw [e6]; exact Ar9.1) (State.isArrayOf_alike hZ.alike Ar9.2.1) Ar9.2.2 hin9 hat9 (g := (mkF m 12 #[.val (.ref a1), .val (.int (1 : Int32)), .val (.ref a2), .val (.int (1 : Int32)), .val (.int (2 : Int32)), .val (.int (1 : Int32)), .val (.int c0)] [(.int (1 : Int32)), (.ref a1)])) rfl rfl (hb hby d42_12) t k) ?_
  refine own_pre (B := T6.setTop (mkF m 15 #[.val (.ref a1), .val (.int (1 : Int32)), .val (.ref a2), .val (.int (1 : Int32)), .val (.int (2 : Int32)), .val (.int (1 : Int32)), .val (.int c1)] [])) (fun t k => XS.istore Xh7.here hx rfl (hb hby d42_13) rfl (l' := #[.val (.ref a1), .val (.int (1 : Int32)), .val (.ref a2), .val (.int (1 : Int32)), .val (.int (2 : Int32)), .val (.int (1 : Int32)), .val (.int c1)]) rfl k) ?_
  refine own_pre (B := T6.setTop (mkF m 17 #[.val (.ref a1), .val (.int (1 : Int32)), .val (.ref a2), .val (.int (1 : Int32)), .val (.int (2 : Int32)), .val (.int (1 : Int32)), .val (.int c1)] [(.int c1)])) (fun t k => XS.iload Xh7.here hx rfl (hb hby d42_15) rfl k) ?_
  refine own_pre (B := T6.setTop (mkF m 20 #[.val (.ref a1), .val (.int (1 : Int32)), .val (.ref a2), .val (.int (1 : Int32)), .val (.int (2 : Int32)), .val (.int (1 : Int32)), .val (.int c1)] [(.int (255 : Int32)), (.int c1)])) (fun t k => XS.sipush Xh7.here hx rfl (hb hby d42_17) k) ?_
  refine own_pre (B := T6.setTop (mkF m 26 #[.val (.ref a1), .val (.int (1 : Int32)), .val (.ref a2), .val (.int (1 : Int32)), .val (.int (2 : Int32)), .val (.int (1 : Int32)), .val (.int c1)] [])) (fun t k => XS.icmpYes Xh7.here hx rfl (pc0 := 20) (pc' := 26) rfl (hb hby d42_20) rfl (flt hc1).2.2.2 (by decide) (by decide) k) ?_
  refine own_pre (B := T6.setTop (mkF m 27 #[.val (.ref a1), .val (.int (1 : Int32)), .val (.ref a2), .val (.int (1 : Int32)), .val (.int (2 : Int32)), .val (.int (1 : Int32)), .val (.int c1)] [(.ref a2)])) (fun t k => XS.aloadN Xh7.here hx rfl (hb hby d42_26) rfl rfl k) ?_
  refine own_pre (B := T6.setTop (mkF m 28 #[.val (.ref a1), .val (.int (1 : Int32)), .val (.ref a2), .val (.int (1 : Int32)), .val (.int (2 : Int32)), .val (.int (1 : Int32)), .val (.int c1)] [(.int (1 : Int32)), (.ref a2)])) (fun t k => XS.iloadN Xh7.here hx rfl (hb hby d42_27) rfl k) ?_
  refine own_pre (B := T6.setTop (mkF m 30 #[.val (.ref a1), .val (.int (1 : Int32)), .val (.ref a2), .val (.int (1 : Int32)), .val (.int (2 : Int32)), .val (.int (1 : Int32)), .val (.int c1)] [(.int c1), (.int (1 : Int32)), (.ref a2)])) (fun t k => XS.iload Xh7.here hx rfl (hb hby d42_28) rfl k) ?_
  refine own_pre (B := T6.setTop (mkF m 31 #[.val (.ref a1), .val (.int (1 : Int32)), .val (.ref a2), .val (.int (1 : Int32)), .val (.int (2 : Int32)), .val (.int (1 : Int32)), .val (.int c1)] [(.int (c1.toInt8.toInt32)), (.int (1 : Int32)), (.ref a2)])) (fun t k => XS.i2b Xh7.here hx rfl (hb hby d42_30) rfl k) ?_
  have K10 : Keep h0 h6 [a2] := (Keep.wr K4 W6 (Or.inl (List.mem_of_getElem? (i := 0) rfl)))
  obtain ⟨cl11, Ar11, q11, S11, N11v, H11v, G11v⟩ := V6
  have V6 : Arv Z h6 a2 k_a2 .byte (2 : Int32) [(.int (nar .byte (c0.toInt8.toInt32))), (.int t1)] (.int (0 : Int32)) := ⟨cl11, Ar11, q11, S11, N11v, H11v, G11v⟩
  have hin11 : ¬ ((1 : Int32) < 0 ∨ cl11.slots.size ≤ ((1 : Int32)).toNatClampNeg) := inb_of S11 ⟨by decide, by decide⟩
  obtain ⟨T12, h12, X12, e12, W12, st12⟩ := stB Xh7 hx hZ e6 Ar11 (j := (1 : Int32)) hin11 (g := (mkF m 31 #[.val (.ref a1), .val (.int (1 : Int32)), .val (.ref a2), .val (.int (1 : Int32)), .val (.int (2 : Int32)), .val (.int (1 : Int32)), .val (.int c1)] [(.int (c1.toInt8.toInt32)), (.int (1 : Int32)), (.ref a2)])) rfl rfl (hb hby d42_31)
  have V12 : Arv Z h12 a2 k_a2 .byte (2 : Int32) [(.int (nar .byte (c0.toInt8.toInt32))), (.int (nar .byte (c1.toInt8.toInt32)))] (.int (0 : Int32)) := Arv.set Ar11 q11 S11 N11v H11v G11v (fits_nar_byte _) W12 1 rfl (Nat.le_of_ble_eq_true rfl)
  have N12 := Fr.snoc X12 Nh7 g_a2
  obtain ⟨Lh13, Xh13, Nh13⟩ := own_hide X12 N12
  refine own_pre (B := T12.setTop (mkF m 32 #[.val (.ref a1), .val (.int (1 : Int32)), .val (.ref a2), .val (.int (1 : Int32)), .val (.int (2 : Int32)), .val (.int (1 : Int32)), .val (.int c1)] [])) (fun t k => st12 t k) ?_
  refine own_pre (B := T12.setTop (mkF m 35 #[.val (.ref a1), .val (.int (2 : Int32)), .val (.ref a2), .val (.int (1 : Int32)), .val (.int (2 : Int32)), .val (.int (1 : Int32)), .val (.int c1)] [])) (fun t k => XS.iinc Xh13.here hx rfl (hb hby d42_32) rfl (l' := #[.val (.ref a1), .val (.int (2 : Int32)), .val (.ref a2), .val (.int (1 : Int32)), .val (.int (2 : Int32)), .val (.int (1 : Int32)), .val (.int c1)]) rfl k) ?_
  refine own_pre (B := T12.setTop (mkF m 38 #[.val (.ref a1), .val (.int (2 : Int32)), .val (.ref a2), .val (.int (2 : Int32)), .val (.int (2 : Int32)), .val (.int (1 : Int32)), .val (.int c1)] [])) (fun t k => XS.iinc Xh13.here hx rfl (hb hby d42_35) rfl (l' := #[.val (.ref a1), .val (.int (2 : Int32)), .val (.ref a2), .val (.int (2 : Int32)), .val (.int (2 : Int32)), .val (.int (1 : Int32)), .val (.int c1)]) rfl k) ?_
  refine own_pre (B := T12.setTop (mkF m 41 #[.val (.ref a1), .val (.int (2 : Int32)), .val (.ref a2), .val (.int (2 : Int32)), .val (.int (2 : Int32)), .val (.int (2 : Int32)), .val (.int c1)] [])) (fun t k => XS.iinc Xh13.here hx rfl (hb hby d42_38) rfl (l' := #[.val (.ref a1), .val (.int (2 : Int32)), .val (.ref a2), .val (.int (2 : Int32)), .val (.int (2 : Int32)), .val (.int (2 : Int32)), .val (.int c1)]) rfl k) ?_
  refine own_pre (B := T12.setTop (mkF m 3 #[.val (.ref a1), .val (.int (2 : Int32)), .val (.ref a2), .val (.int (2 : Int32)), .val (.int (2 : Int32)), .val (.int (2 : Int32)), .val (.int c1)] [])) (fun t k => XS.goto Xh13.here hx rfl (pc0 := 41) (pc' := 3) rfl (hb hby d42_41) (by decide) (by decide) k) ?_
  refine own_pre (B := T12.setTop (mkF m 5 #[.val (.ref a1), .val (.int (2 : Int32)), .val (.ref a2), .val (.int (2 : Int32)), .val (.int (2 : Int32)), .val (.int (2 : Int32)), .val (.int c1)] [(.int (2 : Int32))])) (fun t k => XS.iload Xh13.here hx rfl (hb hby d42_3) rfl k) ?_
  refine own_pre (B := T12.setTop (mkF m 7 #[.val (.ref a1), .val (.int (2 : Int32)), .val (.ref a2), .val (.int (2 : Int32)), .val (.int (2 : Int32)), .val (.int (2 : Int32)), .val (.int c1)] [(.int (2 : Int32)), (.int (2 : Int32))])) (fun t k => XS.iload Xh13.here hx rfl (hb hby d42_5) rfl k) ?_
  refine own_pre (B := T12.setTop (mkF m 44 #[.val (.ref a1), .val (.int (2 : Int32)), .val (.ref a2), .val (.int (2 : Int32)), .val (.int (2 : Int32)), .val (.int (2 : Int32)), .val (.int c1)] [])) (fun t k => XS.icmpYes Xh13.here hx rfl (pc0 := 7) (pc' := 44) rfl (hb hby d42_7) rfl (flt (by decide : ¬ ((2 : Int32) < (2 : Int32)))).2.1 (by decide) (by decide) k) ?_
  refine own_pre (B := T12.setTop (mkF m 46 #[.val (.ref a1), .val (.int (2 : Int32)), .val (.ref a2), .val (.int (2 : Int32)), .val (.int (2 : Int32)), .val (.int (2 : Int32)), .val (.int c1)] [(.int (2 : Int32))])) (fun t k => XS.iload Xh13.here hx rfl (hb hby d42_44) rfl k) ?_
  have K14 : Keep h0 h12 [a2] := (Keep.wr K10 W12 (Or.inl (List.mem_of_getElem? (i := 0) rfl)))
  obtain ⟨fsr15, hrr15, hrunr15, hendedr15, hWr15, hsamer15⟩ := Xh13.leave (v := some (.int (2 : Int32))) (fun h => by rw [Bd.returns] at h; cases h)
  refine ⟨_, _, (retI Xh13 hx Bd.returns (hb hby d42_46) hrr15), hrunr15, hendedr15, _, _, rfl, ?_, ⟨_, rfl⟩, hWr15, hsamer15.mono (by decide) (by decide)⟩
  show Q42 Z a1 a2 k_a1 c0 c1 k_a2 t0 t1 h0 n0 _ T12.heap _
  rw [e12]
  exact ⟨rfl, Nh13, K14, V12⟩
theorem pd_19 : parseMethodDescriptor "([CI[BII)I" = some ⟨[(.array .char), .int, (.array .byte), .int, .int], some .int⟩ := by decide +kernel
theorem d41_0 : decode jdk_52_method_16_code 0 = .ok (.iload_n 2, 1) := by decide +kernel
theorem d41_1 : decode jdk_52_method_16_code 1 = .ok (.newarray .byte, 2) := by decide +kernel
theorem d41_3 : decode jdk_52_method_16_code 3 = .ok (.astore_n 3, 1) := by decide +kernel
theorem d41_4 : decode jdk_52_method_16_code 4 = .ok (.aload_n 0, 1) := by decide +kernel
theorem d41_5 : decode jdk_52_method_16_code 5 = .ok (.iload_n 1, 1) := by decide +kernel
theorem d41_6 : decode jdk_52_method_16_code 6 = .ok (.aload_n 3, 1) := by decide +kernel
theorem d41_7 : decode jdk_52_method_16_code 7 = .ok (.iconst 0, 1) := by decide +kernel
theorem d41_8 : decode jdk_52_method_16_code 8 = .ok (.iload_n 2, 1) := by decide +kernel
theorem d41_9 : decode jdk_52_method_16_code 9 = .ok (.invokestatic 115, 3) := by decide +kernel
theorem d41_12 : decode jdk_52_method_16_code 12 = .ok (.istore 4, 2) := by decide +kernel
theorem d41_14 : decode jdk_52_method_16_code 14 = .ok (.iload 4, 2) := by decide +kernel
theorem d41_16 : decode jdk_52_method_16_code 16 = .ok (.iload_n 2, 1) := by decide +kernel
theorem d41_17 : decode jdk_52_method_16_code 17 = .ok (.if_icmp .eq 40, 3) := by decide +kernel
theorem d41_57 : decode jdk_52_method_16_code 57 = .ok (.aload_n 3, 1) := by decide +kernel
theorem d41_58 : decode jdk_52_method_16_code 58 = .ok (.areturn, 1) := by decide +kernel
theorem pn_41 : plainName "java/lang/StringUTF16" = true := by first | (simp [plainName, overriddenIn]; done) | decide +kernel
theorem ef_41 (m : MethodId) (x0 : Addr) : entryFrame m #[(.ref x0), (.int (0 : Int32)), (.int (2 : Int32))] 6 = mkF m 0 #[.val (.ref x0), .val (.int (0 : Int32)), .val (.int (2 : Int32)), .unset, .unset, .unset] [] := by first | (simp [entryFrame, mkF, argsToLocals, Value.category]; done) | rfl
def Q41 (Z : State) (a1 : Addr) (k_a1 : ClassId) (c0 : Int32) (c1 : Int32) (h0 : Heap) (n0 : Nat) (v : Option Value) (h : Heap) (L : List Loc) : Prop := ∃ (b3 : Addr) (k3 : ClassId), v = some (.ref b3) ∧ Fr n0 L ∧ Keep h0 h [] ∧ n0 ≤ b3 ∧ h0.size ≤ b3 ∧ Exa Z h b3 "[B" ∧ Arv Z h b3 k3 .byte (2 : Int32) [(.int (nar .byte (c0.toInt8.toInt32))), (.int (nar .byte (c1.toInt8.toInt32)))] (.int (0 : Int32))
set_option maxRecDepth 65536 in
set_option maxHeartbeats 40000000 in
theorem rm41 (l : Launch) (Z : State) (a0 : Array Value) (hw : ∀ d ∈ tables_1, d.before a0 Z = true) (ws : List Jvm.Cond) (a1 : Addr) (k_a1 : ClassId) (c0 : Int32) (c1 : Int32) (h0 : Heap) (n0 : Nat) (Z0 : n0 ≤ h0.size) (V_a1 : Arv Z h0 a1 k_a1 .char (2 : Int32) [(.int c0), (.int c1)] (.int (0 : Int32))) (hc0 : ¬ (255 : Int32) < c0) (hc1 : ¬ (255 : Int32) < c1) :
    MetFree l (⟨"java/lang/StringUTF16", "compress", "([CII)[B"⟩ : MethodName) (head1 (Jvm.Cond.code (⟨"java/lang/StringUTF16", "compress", "([CII)[B"⟩ : MethodName) jdk_52_method_16_code 6 (some (.array .byte)) :: ws) ({ frames := 1, cells := 1, slots := 2, locals := 18 } : Room)) (fun a U => a = #[(.ref a1), (.int (0 : Int32)), (.int (2 : Int32))] ∧ Z.Warmed39 U.vm ∧ U.heap = h0) (fun _ _ _ _ _ => True) (fun _ U o U' => ∃ v L, o = .returned v ∧ Q41 Z a1 k_a1 c0 c1 h0 n0 v U'.heap L ∧ FrameEnd U o U' L ({ frames := 1, cells := 1, slots := 2, locals := 18 } : Room).cells ({ frames := 1, cells := 1, slots := 2, locals := 18 } : Room).slots) := by
  refine MetFree.of_bodySF (plainFor_of_name pn_41) hisR ?_
  intro p e s m args below meth c s₁ Bd hml0 hP hK
  obtain ⟨rfl, hZ, hh⟩ := hP
  have hx := Bd.exec
  have hby := Bd.bytes
  have hml : c.maxLocals = 6 := hml0
  have hown : s.vm.findClass "java/lang/StringUTF16" = some m.cls := findClass_of_methodNamed Bd.named
  have hnm := (name_of_methodNamed Bd.named Bd.method).1
  have X0 : Stand p l e ({ frames := 1, cells := 1, slots := 2, locals := 18 } : Room) s m #[(.ref a1), (.int (0 : Int32)), (.int (2 : Int32))] below meth c s₁ [] 0 0 := Stand.of_body Bd
  have e0 : s₁.heap = h0 := by rw [← hh, Bd.state]; rfl
  have N0 := Fr.nil n0
  apply own_in
  refine own_pre (B := s₁.setTop (mkF m 0 #[.val (.ref a1), .val (.int (0 : Int32)), .val (.int (2 : Int32)), .unset, .unset, .unset] [])) (fun t k => castTop (ef_41 m a1) k) ?_
  refine own_pre (B := s₁.setTop (mkF m 1 #[.val (.ref a1), .val (.int (0 : Int32)), .val (.int (2 : Int32)), .unset, .unset, .unset] [(.int (2 : Int32))])) (fun t k => XS.iloadN X0.here hx rfl (hb hby d41_0) rfl k) ?_
  have K2 : Keep h0 h0 [] := (Keep.refl h0 [])
  obtain ⟨T3, h3, k3, X3, e3, E3, A3, Q3, st3⟩ := own_newQ X0 hx hZ (hw _ (ow 3 rfl)) e0 (g := (mkF m 1 #[.val (.ref a1), .val (.int (0 : Int32)), .val (.int (2 : Int32)), .unset, .unset, .unset] [(.int (2 : Int32))])) rfl (hb hby d41_1) rfl (by decide) (cap := 2) (by decide) (by decide) (by decide) (by decide) (C := "[B") rfl
  obtain ⟨b3, g3⟩ : ∃ z, z = h0.size := ⟨_, rfl⟩
  rw [← g3] at A3 Q3 st3
  have g_b3 : n0 ≤ b3 := Nat.le_trans Z0 (Nat.le_of_eq g3.symm)
  have s_b3 : h0.size ≤ b3 := Nat.le_trans K2.1 (Nat.le_of_eq g3.symm)
  have ne4 : a1 ≠ b3 := Nat.ne_of_lt (Nat.lt_of_lt_of_le (Arv.lt V_a1) (Nat.le_of_eq g3.symm))
  have V_b3 : Arv Z h3 b3 k3 .byte (2 : Int32) [(.int (0 : Int32)), (.int (0 : Int32))] (.int (0 : Int32)) := (Arv.new A3 (by decide)).pad (pad_rep [] (.int (0 : Int32)) 2)
  refine own_pre (B := T3.setTop (mkF m 3 #[.val (.ref a1), .val (.int (0 : Int32)), .val (.int (2 : Int32)), .unset, .unset, .unset] [(.ref b3)])) (fun t k => st3 t k) ?_
  refine own_pre (B := T3.setTop (mkF m 4 #[.val (.ref a1), .val (.int (0 : Int32)), .val (.int (2 : Int32)), .val (.ref b3), .unset, .unset] [])) (fun t k => XS.astoreN X3.here hx rfl (hb hby d41_3) rfl rfl (l' := #[.val (.ref a1), .val (.int (0 : Int32)), .val (.int (2 : Int32)), .val (.ref b3), .unset, .unset]) rfl k) ?_
  refine own_pre (B := T3.setTop (mkF m 5 #[.val (.ref a1), .val (.int (0 : Int32)), .val (.int (2 : Int32)), .val (.ref b3), .unset, .unset] [(.ref a1)])) (fun t k => XS.aloadN X3.here hx rfl (hb hby d41_4) rfl rfl k) ?_
  refine own_pre (B := T3.setTop (mkF m 6 #[.val (.ref a1), .val (.int (0 : Int32)), .val (.int (2 : Int32)), .val (.ref b3), .unset, .unset] [(.int (0 : Int32)), (.ref a1)])) (fun t k => XS.iloadN X3.here hx rfl (hb hby d41_5) rfl k) ?_
  refine own_pre (B := T3.setTop (mkF m 7 #[.val (.ref a1), .val (.int (0 : Int32)), .val (.int (2 : Int32)), .val (.ref b3), .unset, .unset] [(.ref b3), (.int (0 : Int32)), (.ref a1)])) (fun t k => XS.aloadN X3.here hx rfl (hb hby d41_6) rfl rfl k) ?_
  refine own_pre (B := T3.setTop (mkF m 8 #[.val (.ref a1), .val (.int (0 : Int32)), .val (.int (2 : Int32)), .val (.ref b3), .unset, .unset] [(.int (0 : Int32)), (.ref b3), (.int (0 : Int32)), (.ref a1)])) (fun t k => XS.iconst X3.here hx rfl (hb hby d41_7) k) ?_
  refine own_pre (B := T3.setTop (mkF m 9 #[.val (.ref a1), .val (.int (0 : Int32)), .val (.int (2 : Int32)), .val (.ref b3), .unset, .unset] [(.int (2 : Int32)), (.int (0 : Int32)), (.ref b3), (.int (0 : Int32)), (.ref a1)])) (fun t k => XS.iloadN X3.here hx rfl (hb hby d41_8) rfl k) ?_
  have c5 := (Arv.ext V_a1 E3)
  have sz6 : n0 ≤ h3.size := (Nat.le_trans Z0 E3.1)
  obtain ⟨_, _, ⟨T7, L7, k7, n7⟩, -, X7, ⟨Lc7, hQ7, l7, y7, z7⟩, st7⟩ := Jvm.LawKit.callS X3 hx (y := (⟨"java/lang/StringUTF16", "compress", "([CI[BII)I"⟩ : MethodName)) hown (mvT hZ (hw _ (ow 229 rfl))) (mvT hZ (hw _ (ow 230 rfl))) (mvT hZ (hw _ (ow 227 rfl))) (mvT hZ (hw _ (ow 231 rfl))) (by decide) (backOf (W := 0) (rm42 l Z a0 hw [] a1 b3 k_a1 c0 c1 k3 (0 : Int32) (0 : Int32) h3 n0 sz6 c5 hc0 hc1 V_b3 ne4 g_b3) hZ (hw _ (ow 231 rfl)) (hw _ (ow 227 rfl)) (by decide) (by decide)) (g := (mkF m 9 #[.val (.ref a1), .val (.int (0 : Int32)), .val (.int (2 : Int32)), .val (.ref b3), .unset, .unset] [(.int (2 : Int32)), (.int (0 : Int32)), (.ref b3), (.int (0 : Int32)), (.ref a1)])) rfl (by rw [hml]; rfl) (argsL := [(.ref a1), (.int (0 : Int32)), (.ref b3), (.int (0 : Int32)), (.int (2 : Int32))]) (rest := []) (lenOf pd_19 rfl) rfl (by show 2 * 0 + _ ≤ _; exact Nat.le_of_eq rfl) (hb hby d41_9) (fun _ _ => ⟨rfl, e3, (by decide : 1 + 0 ≤ _), (by decide : 2 + 0 ≤ _)⟩)
  dsimp only [Pt.U, Pt.locs, Pt.cells, Pt.slots] at X7 l7 y7 z7 st7 hQ7
  subst l7 y7 z7
  obtain ⟨rfl, N7q, K7, q7_0⟩ := hQ7
  have N7 := Fr.app N0 N7q
  have K8 : Keep h0 h3 [] := (Keep.ext K2 E3)
  obtain ⟨Lh9, Xh9, Nh9⟩ := own_hide X7 N7
  refine own_pre (B := T7.setTop (mkF m 12 #[.val (.ref a1), .val (.int (0 : Int32)), .val (.int (2 : Int32)), .val (.ref b3), .unset, .unset] [(.int (2 : Int32))])) (fun t k => st7 t k) ?_
  refine own_pre (B := T7.setTop (mkF m 14 #[.val (.ref a1), .val (.int (0 : Int32)), .val (.int (2 : Int32)), .val (.ref b3), .val (.int (2 : Int32)), .unset] [])) (fun t k => XS.istore Xh9.here hx rfl (hb hby d41_12) rfl (l' := #[.val (.ref a1), .val (.int (0 : Int32)), .val (.int (2 : Int32)), .val (.ref b3), .val (.int (2 : Int32)), .unset]) rfl k) ?_
  refine own_pre (B := T7.setTop (mkF m 16 #[.val (.ref a1), .val (.int (0 : Int32)), .val (.int (2 : Int32)), .val (.ref b3), .val (.int (2 : Int32)), .unset] [(.int (2 : Int32))])) (fun t k => XS.iload Xh9.here hx rfl (hb hby d41_14) rfl k) ?_
  refine own_pre (B := T7.setTop (mkF m 17 #[.val (.ref a1), .val (.int (0 : Int32)), .val (.int (2 : Int32)), .val (.ref b3), .val (.int (2 : Int32)), .unset] [(.int (2 : Int32)), (.int (2 : Int32))])) (fun t k => XS.iloadN Xh9.here hx rfl (hb hby d41_16) rfl k) ?_
  refine own_pre (B := T7.setTop (mkF m 57 #[.val (.ref a1), .val (.int (0 : Int32)), .val (.int (2 : Int32)), .val (.ref b3), .val (.int (2 : Int32)), .unset] [])) (fun t k => XS.icmpYes Xh9.here hx rfl (pc0 := 17) (pc' := 57) rfl (hb hby d41_17) rfl (teq (rfl : (2 : Int32) = (2 : Int32))).1 (by decide) (by decide) k) ?_
  refine own_pre (B := T7.setTop (mkF m 58 #[.val (.ref a1), .val (.int (0 : Int32)), .val (.int (2 : Int32)), .val (.ref b3), .val (.int (2 : Int32)), .unset] [(.ref b3)])) (fun t k => XS.aloadN Xh9.here hx rfl (hb hby d41_57) rfl rfl k) ?_
  have K10 : Keep h0 T7.heap [] := (Keep.trans K8 K7 (allS (P := fun x => x ∈ [] ∨ h0.size ≤ x) (Or.inr s_b3) all0))
  have c11 := (Exa.keep Q3 K7)
  obtain ⟨fsr12, hrr12, hrunr12, hendedr12, hWr12, hsamer12⟩ := Xh9.leave (v := some (.ref b3)) (fun h => by rw [Bd.returns] at h; cases h)
  refine ⟨_, _, (retOut Xh9 hx (i := .areturn) Bd.returns rfl (Or.inr (Or.inr (Or.inr (Or.inr ⟨rfl, rfl, rfl⟩)))) (hb hby d41_58) hrr12), hrunr12, hendedr12, _, _, rfl, ?_, ⟨_, rfl⟩, hWr12, hsamer12.mono (by decide) (by decide)⟩
  show Q41 Z a1 k_a1 c0 c1 h0 n0 _ T7.heap _
  exact ⟨b3, k3, rfl, Nh9, K10, g_b3, s_b3, c11, q7_0⟩
theorem d43_0 : decode jdk_52_method_15_code 0 = .ok (.iload_n 1, 1) := by decide +kernel
theorem d43_1 : decode jdk_52_method_15_code 1 = .ok (.aload_n 0, 1) := by decide +kernel
theorem d43_2 : decode jdk_52_method_15_code 2 = .ok (.arraylength, 1) := by decide +kernel
theorem d43_3 : decode jdk_52_method_15_code 3 = .ok (.isub, 1) := by decide +kernel
theorem d43_4 : decode jdk_52_method_15_code 4 = .ok (.bipush 31, 2) := by decide +kernel
theorem d43_6 : decode jdk_52_method_15_code 6 = .ok (.iushr, 1) := by decide +kernel
theorem d43_7 : decode jdk_52_method_15_code 7 = .ok (.i2b, 1) := by decide +kernel
theorem d43_8 : decode jdk_52_method_15_code 8 = .ok (.ireturn, 1) := by decide +kernel
theorem pn_43 : plainName "java/lang/StringUTF16" = true := by first | (simp [plainName, overriddenIn]; done) | decide +kernel
theorem ef_43 (m : MethodId) (x0 : Addr) : entryFrame m #[(.ref x0), (.int (2 : Int32))] 2 = mkF m 0 #[.val (.ref x0), .val (.int (2 : Int32))] [] := by first | (simp [entryFrame, mkF, argsToLocals, Value.category]; done) | rfl
def Q43 (Z : State) (a1 : Addr) (k_a1 : ClassId) (t0 : Int32) (t1 : Int32) (h0 : Heap) (n0 : Nat) (v : Option Value) (h : Heap) (L : List Loc) : Prop := v = some (.int (0 : Int32)) ∧ Fr n0 L ∧ h = h0
set_option maxRecDepth 65536 in
set_option maxHeartbeats 40000000 in
theorem rm43 (l : Launch) (Z : State) (a0 : Array Value) (hw : ∀ d ∈ tables_1, d.before a0 Z = true) (ws : List Jvm.Cond) (a1 : Addr) (k_a1 : ClassId) (t0 : Int32) (t1 : Int32) (h0 : Heap) (n0 : Nat) (Z0 : n0 ≤ h0.size) (V_a1 : Arv Z h0 a1 k_a1 .byte (2 : Int32) [(.int t0), (.int t1)] (.int (0 : Int32))) :
    MetFree l (⟨"java/lang/StringUTF16", "coderFromArrayLen", "([BI)B"⟩ : MethodName) (head1 (Jvm.Cond.code (⟨"java/lang/StringUTF16", "coderFromArrayLen", "([BI)B"⟩ : MethodName) jdk_52_method_15_code 2 (some .byte) :: ws) ({ frames := 0, cells := 0, slots := 0, locals := 0 } : Room)) (fun a U => a = #[(.ref a1), (.int (2 : Int32))] ∧ Z.Warmed39 U.vm ∧ U.heap = h0) (fun _ _ _ _ _ => True) (fun _ U o U' => ∃ v L, o = .returned v ∧ Q43 Z a1 k_a1 t0 t1 h0 n0 v U'.heap L ∧ FrameEnd U o U' L ({ frames := 0, cells := 0, slots := 0, locals := 0 } : Room).cells ({ frames := 0, cells := 0, slots := 0, locals := 0 } : Room).slots) := by
  refine MetFree.of_bodySF (plainFor_of_name pn_43) hisR ?_
  intro p e s m args below meth c s₁ Bd hml0 hP hK
  obtain ⟨rfl, hZ, hh⟩ := hP
  have hx := Bd.exec
  have hby := Bd.bytes
  have hml : c.maxLocals = 2 := hml0
  have hown : s.vm.findClass "java/lang/StringUTF16" = some m.cls := findClass_of_methodNamed Bd.named
  have hnm := (name_of_methodNamed Bd.named Bd.method).1
  have X0 : Stand p l e ({ frames := 0, cells := 0, slots := 0, locals := 0 } : Room) s m #[(.ref a1), (.int (2 : Int32))] below meth c s₁ [] 0 0 := Stand.of_body Bd
  have e0 : s₁.heap = h0 := by rw [← hh, Bd.state]; rfl
  have N0 := Fr.nil n0
  apply own_in
  refine own_pre (B := s₁.setTop (mkF m 0 #[.val (.ref a1), .val (.int (2 : Int32))] [])) (fun t k => castTop (ef_43 m a1) k) ?_
  refine own_pre (B := s₁.setTop (mkF m 1 #[.val (.ref a1), .val (.int (2 : Int32))] [(.int (2 : Int32))])) (fun t k => XS.iloadN X0.here hx rfl (hb hby d43_0) rfl k) ?_
  refine own_pre (B := s₁.setTop (mkF m 2 #[.val (.ref a1), .val (.int (2 : Int32))] [(.ref a1), (.int (2 : Int32))])) (fun t k => XS.aloadN X0.here hx rfl (hb hby d43_1) rfl rfl k) ?_
  obtain ⟨cl2, Ar2, -, S2, N2v, -, -⟩ := id V_a1
  refine own_pre (B := s₁.setTop (mkF m 3 #[.val (.ref a1), .val (.int (2 : Int32))] [(.int (2 : Int32)), (.int (2 : Int32))])) (fun t k => X0.arraylength hx (by rw [e0]; exact Ar2.1) (State.isArrayOf_alike hZ.alike Ar2.2.1) (g := (mkF m 2 #[.val (.ref a1), .val (.int (2 : Int32))] [(.ref a1), (.int (2 : Int32))])) rfl rfl (hb hby d43_2) t (by rw [len_of S2 N2v]; exact k)) ?_
  refine own_pre (B := s₁.setTop (mkF m 4 #[.val (.ref a1), .val (.int (2 : Int32))] [(.int (0 : Int32))])) (fun t k => XS.isub X0.here hx rfl (hb hby d43_3) rfl k) ?_
  refine own_pre (B := s₁.setTop (mkF m 6 #[.val (.ref a1), .val (.int (2 : Int32))] [(.int (31 : Int32)), (.int (0 : Int32))])) (fun t k => XS.bipush X0.here hx rfl (hb hby d43_4) k) ?_
  refine own_pre (B := s₁.setTop (mkF m 7 #[.val (.ref a1), .val (.int (2 : Int32))] [(.int (0 : Int32))])) (fun t k => XS.iushr X0.here hx rfl (hb hby d43_6) rfl k) ?_
  refine own_pre (B := s₁.setTop (mkF m 8 #[.val (.ref a1), .val (.int (2 : Int32))] [(.int (0 : Int32))])) (fun t k => XS.i2b X0.here hx rfl (hb hby d43_7) rfl k) ?_
  obtain ⟨fsr3, hrr3, hrunr3, hendedr3, hWr3, hsamer3⟩ := X0.leave (v := some (.int (0 : Int32))) (fun h => by rw [Bd.returns] at h; cases h)
  refine ⟨_, _, (retN X0 hx (t := .byte) Bd.returns (by simp) (hb hby d43_8) hrr3), hrunr3, hendedr3, _, _, rfl, ?_, ⟨_, rfl⟩, hWr3, hsamer3.mono (by decide) (by decide)⟩
  show Q43 Z a1 k_a1 t0 t1 h0 n0 _ s₁.heap _
  rw [e0]
  exact ⟨rfl, N0, rfl⟩
theorem pd_20 : parseMethodDescriptor "([CII)[B" = some ⟨[(.array .char), .int, .int], some (.array .byte)⟩ := by decide +kernel
theorem pd_21 : parseMethodDescriptor "([BI)B" = some ⟨[(.array .byte), .int], some .byte⟩ := by decide +kernel
theorem d40_0 : decode jdk_42_method_149_code 0 = .ok (.aload_n 0, 1) := by decide +kernel
theorem d40_1 : decode jdk_42_method_149_code 1 = .ok (.invokespecial 1, 3) := by decide +kernel
theorem d40_4 : decode jdk_42_method_149_code 4 = .ok (.iload_n 3, 1) := by decide +kernel
theorem d40_5 : decode jdk_42_method_149_code 5 = .ok (.ifCond .ne 22, 3) := by decide +kernel
theorem d40_27 : decode jdk_42_method_149_code 27 = .ok (.getstatic 38, 3) := by decide +kernel
theorem d40_30 : decode jdk_42_method_149_code 30 = .ok (.ifCond .eq 28, 3) := by decide +kernel
theorem d40_33 : decode jdk_42_method_149_code 33 = .ok (.aload_n 1, 1) := by decide +kernel
theorem d40_34 : decode jdk_42_method_149_code 34 = .ok (.iload_n 2, 1) := by decide +kernel
theorem d40_35 : decode jdk_42_method_149_code 35 = .ok (.iload_n 3, 1) := by decide +kernel
theorem d40_36 : decode jdk_42_method_149_code 36 = .ok (.invokestatic 177, 3) := by decide +kernel
theorem d40_39 : decode jdk_42_method_149_code 39 = .ok (.astore 5, 2) := by decide +kernel
theorem d40_41 : decode jdk_42_method_149_code 41 = .ok (.aload_n 0, 1) := by decide +kernel
theorem d40_42 : decode jdk_42_method_149_code 42 = .ok (.aload 5, 2) := by decide +kernel
theorem d40_44 : decode jdk_42_method_149_code 44 = .ok (.iload_n 3, 1) := by decide +kernel
theorem d40_45 : decode jdk_42_method_149_code 45 = .ok (.invokestatic 47, 3) := by decide +kernel
theorem d40_48 : decode jdk_42_method_149_code 48 = .ok (.putfield 15, 3) := by decide +kernel
theorem d40_51 : decode jdk_42_method_149_code 51 = .ok (.aload_n 0, 1) := by decide +kernel
theorem d40_52 : decode jdk_42_method_149_code 52 = .ok (.aload 5, 2) := by decide +kernel
theorem d40_54 : decode jdk_42_method_149_code 54 = .ok (.putfield 9, 3) := by decide +kernel
theorem d40_57 : decode jdk_42_method_149_code 57 = .ok (.return_, 1) := by decide +kernel
theorem pn_40 : plainName "java/lang/String" = true := by first | (simp [plainName, overriddenIn]; done) | decide +kernel
theorem ef_40 (m : MethodId) (x0 : Addr) (x1 : Addr) : entryFrame m #[(.ref x0), (.ref x1), (.int (0 : Int32)), (.int (2 : Int32)), .null] 6 = mkF m 0 #[.val (.ref x0), .val (.ref x1), .val (.int (0 : Int32)), .val (.int (2 : Int32)), .val .null, .unset] [] := by first | (simp [entryFrame, mkF, argsToLocals, Value.category]; done) | rfl
def Q40 (Z : State) (a1 : Addr) (a2 : Addr) (cs : Int32) (k_a2 : ClassId) (c0 : Int32) (c1 : Int32) (u_coder_a1 : Value) (u_value_a1 : Value) (h0 : Heap) (n0 : Nat) (v : Option Value) (h : Heap) (L : List Loc) : Prop := ∃ (b3_5 : Addr) (k3_5 : ClassId), v = none ∧ Fr n0 L ∧ Keep h0 h [a1] ∧ Exa Z h a1 "java/lang/String" ∧ Fld Z h a1 "java/lang/String" "coder" "B" (.int (0 : Int32)) ∧ Fld Z h a1 "java/lang/String" "value" "[B" (.ref b3_5) ∧ n0 ≤ b3_5 ∧ h0.size ≤ b3_5 ∧ Exa Z h b3_5 "[B" ∧ Arv Z h b3_5 k3_5 .byte (2 : Int32) [(.int (nar .byte (c0.toInt8.toInt32))), (.int (nar .byte (c1.toInt8.toInt32)))] (.int (0 : Int32))
set_option maxRecDepth 65536 in
set_option maxHeartbeats 40000000 in
theorem rm40 (l : Launch) (Z : State) (a0 : Array Value) (hw : ∀ d ∈ tables_1, d.before a0 Z = true) (ws : List Jvm.Cond) (a1 : Addr) (a2 : Addr) (cs : Int32) (k_a2 : ClassId) (c0 : Int32) (c1 : Int32) (u_coder_a1 : Value) (u_value_a1 : Value) (h0 : Heap) (n0 : Nat) (Z0 : n0 ≤ h0.size) (O0 : Old Z n0 h0) (SCS : Sta Z Z.heap "java/lang/String" "COMPACT_STRINGS" "Z" (.int cs)) (hcs : ¬ cs = (0 : Int32)) (E_a1 : Exa Z h0 a1 "java/lang/String") (V_a2 : Arv Z h0 a2 k_a2 .char (2 : Int32) [(.int c0), (.int c1)] (.int (0 : Int32))) (hc0 : ¬ (255 : Int32) < c0) (hc1 : ¬ (255 : Int32) < c1) (F_coder_a1 : Fld Z h0 a1 "java/lang/String" "coder" "B" u_coder_a1) (g_a1 : n0 ≤ a1) (F_value_a1 : Fld Z h0 a1 "java/lang/String" "value" "[B" u_value_a1) :
    MetFree l (⟨"java/lang/String", "<init>", "([CIILjava/lang/Void;)V"⟩ : MethodName) (head1 (Jvm.Cond.code (⟨"java/lang/String", "<init>", "([CIILjava/lang/Void;)V"⟩ : MethodName) jdk_42_method_149_code 6 none :: ws) ({ frames := 2, cells := 1, slots := 2, locals := 35 } : Room)) (fun a U => a = #[(.ref a1), (.ref a2), (.int (0 : Int32)), (.int (2 : Int32)), .null] ∧ Z.Warmed39 U.vm ∧ U.heap = h0) (fun _ _ _ _ _ => True) (fun _ U o U' => ∃ v L, o = .returned v ∧ Q40 Z a1 a2 cs k_a2 c0 c1 u_coder_a1 u_value_a1 h0 n0 v U'.heap L ∧ FrameEnd U o U' L ({ frames := 2, cells := 1, slots := 2, locals := 35 } : Room).cells ({ frames := 2, cells := 1, slots := 2, locals := 35 } : Room).slots) := by
  refine MetFree.of_bodySF (plainFor_of_name pn_40) hisR ?_
  intro p e s m args below meth c s₁ Bd hml0 hP hK
  obtain ⟨rfl, hZ, hh⟩ := hP
  have hx := Bd.exec
  have hby := Bd.bytes
  have hml : c.maxLocals = 6 := hml0
  have hown : s.vm.findClass "java/lang/String" = some m.cls := findClass_of_methodNamed Bd.named
  have hnm := (name_of_methodNamed Bd.named Bd.method).1
  have X0 : Stand p l e ({ frames := 2, cells := 1, slots := 2, locals := 35 } : Room) s m #[(.ref a1), (.ref a2), (.int (0 : Int32)), (.int (2 : Int32)), .null] below meth c s₁ [] 0 0 := Stand.of_body Bd
  have e0 : s₁.heap = h0 := by rw [← hh, Bd.state]; rfl
  have N0 := Fr.nil n0
  apply own_in
  refine own_pre (B := s₁.setTop (mkF m 0 #[.val (.ref a1), .val (.ref a2), .val (.int (0 : Int32)), .val (.int (2 : Int32)), .val .null, .unset] [])) (fun t k => castTop (ef_40 m a1 a2) k) ?_
  refine own_pre (B := s₁.setTop (mkF m 1 #[.val (.ref a1), .val (.ref a2), .val (.int (0 : Int32)), .val (.int (2 : Int32)), .val .null, .unset] [(.ref a1)])) (fun t k => XS.aloadN X0.here hx rfl (hb hby d40_0) rfl rfl k) ?_
  obtain ⟨T3, X3, e3, st3⟩ := initO X0 hx hZ hown (hw _ (ow 165 rfl)) (hw _ (ow 27 rfl)) (hw _ (ow 28 rfl)) e0 (g := (mkF m 1 #[.val (.ref a1), .val (.ref a2), .val (.int (0 : Int32)), .val (.int (2 : Int32)), .val .null, .unset] [(.ref a1)])) rfl (by rw [hml]; rfl) rfl (hb hby d40_1) (by decide) (W := 0) (by show 2 * 0 + _ ≤ _; exact Nat.le_of_eq rfl) (by decide)
  refine own_pre (B := T3.setTop (mkF m 4 #[.val (.ref a1), .val (.ref a2), .val (.int (0 : Int32)), .val (.int (2 : Int32)), .val .null, .unset] [])) (fun t k => st3 t k) ?_
  refine own_pre (B := T3.setTop (mkF m 5 #[.val (.ref a1), .val (.ref a2), .val (.int (0 : Int32)), .val (.int (2 : Int32)), .val .null, .unset] [(.int (2 : Int32))])) (fun t k => XS.iloadN X3.here hx rfl (hb hby d40_4) rfl k) ?_
  refine own_pre (B := T3.setTop (mkF m 27 #[.val (.ref a1), .val (.ref a2), .val (.int (0 : Int32)), .val (.int (2 : Int32)), .val .null, .unset] [])) (fun t k => XS.ifYes X3.here hx rfl (pc0 := 5) (pc' := 27) rfl (hb hby d40_5) rfl ((if0 _ _).trans (feq (by decide : ¬ ((2 : Int32) = (0 : Int32)))).2) (by decide) (by decide) k) ?_
  obtain ⟨T4, X4, e4, st4⟩ := getS2 X3 hx hZ hown (host := "") (Or.inl (hw _ (ow 88 rfl))) Via.refl e3 (Sta.ext O0.2 SCS) (g := (mkF m 27 #[.val (.ref a1), .val (.ref a2), .val (.int (0 : Int32)), .val (.int (2 : Int32)), .val .null, .unset] [])) rfl (hb hby d40_27)
  refine own_pre (B := T4.setTop (mkF m 30 #[.val (.ref a1), .val (.ref a2), .val (.int (0 : Int32)), .val (.int (2 : Int32)), .val .null, .unset] [(.int cs)])) (fun t k => st4 t k) ?_
  refine own_pre (B := T4.setTop (mkF m 33 #[.val (.ref a1), .val (.ref a2), .val (.int (0 : Int32)), .val (.int (2 : Int32)), .val .null, .unset] [])) (fun t k => XS.ifNo X4.here hx rfl (hb hby d40_30) rfl ((if0 _ _).trans (feq hcs).1) k) ?_
  refine own_pre (B := T4.setTop (mkF m 34 #[.val (.ref a1), .val (.ref a2), .val (.int (0 : Int32)), .val (.int (2 : Int32)), .val .null, .unset] [(.ref a2)])) (fun t k => XS.aloadN X4.here hx rfl (hb hby d40_33) rfl rfl k) ?_
  refine own_pre (B := T4.setTop (mkF m 35 #[.val (.ref a1), .val (.ref a2), .val (.int (0 : Int32)), .val (.int (2 : Int32)), .val .null, .unset] [(.int (0 : Int32)), (.ref a2)])) (fun t k => XS.iloadN X4.here hx rfl (hb hby d40_34) rfl k) ?_
  refine own_pre (B := T4.setTop (mkF m 36 #[.val (.ref a1), .val (.ref a2), .val (.int (0 : Int32)), .val (.int (2 : Int32)), .val .null, .unset] [(.int (2 : Int32)), (.int (0 : Int32)), (.ref a2)])) (fun t k => XS.iloadN X4.here hx rfl (hb hby d40_35) rfl k) ?_
  obtain ⟨_, _, ⟨T5, L5, k5, n5⟩, -, X5, ⟨Lc5, hQ5, l5, y5, z5⟩, st5⟩ := Jvm.LawKit.callS X4 hx (y := (⟨"java/lang/StringUTF16", "compress", "([CII)[B"⟩ : MethodName)) hown (mvT hZ (hw _ (ow 225 rfl))) (mvT hZ (hw _ (ow 226 rfl))) (mvT hZ (hw _ (ow 227 rfl))) (mvT hZ (hw _ (ow 228 rfl))) (by decide) (backOf (W := 0) (rm41 l Z a0 hw [] a2 k_a2 c0 c1 h0 n0 Z0 V_a2 hc0 hc1) hZ (hw _ (ow 228 rfl)) (hw _ (ow 227 rfl)) (by decide) (by decide)) (g := (mkF m 36 #[.val (.ref a1), .val (.ref a2), .val (.int (0 : Int32)), .val (.int (2 : Int32)), .val .null, .unset] [(.int (2 : Int32)), (.int (0 : Int32)), (.ref a2)])) rfl (by rw [hml]; rfl) (argsL := [(.ref a2), (.int (0 : Int32)), (.int (2 : Int32))]) (rest := []) (lenOf pd_20 rfl) rfl (by show 2 * 0 + _ ≤ _; exact Nat.le_of_eq rfl) (hb hby d40_36) (fun _ _ => ⟨rfl, e4, (by decide : 0 + 1 ≤ _), (by decide : 0 + 2 ≤ _)⟩)
  dsimp only [Pt.U, Pt.locs, Pt.cells, Pt.slots] at X5 l5 y5 z5 st5 hQ5
  subst l5 y5 z5
  obtain ⟨b3_5, k3_5, rfl, N5q, K5, q5_0, q5_1, q5_2, q5_3⟩ := hQ5
  have N5 := Fr.app N0 N5q
  have K6 : Keep h0 h0 [a1] := (Keep.refl h0 [a1])
  have ne7 : a1 ≠ b3_5 := Nat.ne_of_lt (Nat.lt_of_lt_of_le (Exa.lt E_a1) q5_1)
  have ne8 : a2 ≠ b3_5 := Nat.ne_of_lt (Nat.lt_of_lt_of_le (Arv.lt V_a2) q5_1)
  have s_b3_5 : h0.size ≤ b3_5 := Nat.le_trans K6.1 q5_1
  obtain ⟨Lh9, Xh9, Nh9⟩ := own_hide X5 N5
  refine own_pre (B := T5.setTop (mkF m 39 #[.val (.ref a1), .val (.ref a2), .val (.int (0 : Int32)), .val (.int (2 : Int32)), .val .null, .unset] [(.ref b3_5)])) (fun t k => st5 t k) ?_
  refine own_pre (B := T5.setTop (mkF m 41 #[.val (.ref a1), .val (.ref a2), .val (.int (0 : Int32)), .val (.int (2 : Int32)), .val .null, .val (.ref b3_5)] [])) (fun t k => XS.astore Xh9.here hx rfl (hb hby d40_39) rfl rfl (l' := #[.val (.ref a1), .val (.ref a2), .val (.int (0 : Int32)), .val (.int (2 : Int32)), .val .null, .val (.ref b3_5)]) rfl k) ?_
  refine own_pre (B := T5.setTop (mkF m 42 #[.val (.ref a1), .val (.ref a2), .val (.int (0 : Int32)), .val (.int (2 : Int32)), .val .null, .val (.ref b3_5)] [(.ref a1)])) (fun t k => XS.aloadN Xh9.here hx rfl (hb hby d40_41) rfl rfl k) ?_
  refine own_pre (B := T5.setTop (mkF m 44 #[.val (.ref a1), .val (.ref a2), .val (.int (0 : Int32)), .val (.int (2 : Int32)), .val .null, .val (.ref b3_5)] [(.ref b3_5), (.ref a1)])) (fun t k => XS.aload Xh9.here hx rfl (hb hby d40_42) rfl rfl k) ?_
  refine own_pre (B := T5.setTop (mkF m 45 #[.val (.ref a1), .val (.ref a2), .val (.int (0 : Int32)), .val (.int (2 : Int32)), .val .null, .val (.ref b3_5)] [(.int (2 : Int32)), (.ref b3_5), (.ref a1)])) (fun t k => XS.iloadN Xh9.here hx rfl (hb hby d40_44) rfl k) ?_
  have sz10 : n0 ≤ T5.heap.size := (Nat.le_trans Z0 K5.1)
  obtain ⟨_, _, ⟨T11, L11, k11, n11⟩, -, X11, ⟨Lc11, hQ11, l11, y11, z11⟩, st11⟩ := Jvm.LawKit.callS Xh9 hx (y := (⟨"java/lang/StringUTF16", "coderFromArrayLen", "([BI)B"⟩ : MethodName)) hown (mvT hZ (hw _ (ow 232 rfl))) (mvT hZ (hw _ (ow 233 rfl))) (mvT hZ (hw _ (ow 227 rfl))) (mvT hZ (hw _ (ow 234 rfl))) (by decide) (backOf (W := 1) (rm43 l Z a0 hw [] b3_5 k3_5 (nar .byte (c0.toInt8.toInt32)) (nar .byte (c1.toInt8.toInt32)) T5.heap n0 sz10 q5_3) hZ (hw _ (ow 234 rfl)) (hw _ (ow 227 rfl)) (by decide) (by decide)) (g := (mkF m 45 #[.val (.ref a1), .val (.ref a2), .val (.int (0 : Int32)), .val (.int (2 : Int32)), .val .null, .val (.ref b3_5)] [(.int (2 : Int32)), (.ref b3_5), (.ref a1)])) rfl (by rw [hml]; rfl) (argsL := [(.ref b3_5), (.int (2 : Int32))]) (rest := [(.ref a1)]) (lenOf pd_21 rfl) rfl (by show 2 * 0 + _ ≤ _; exact Nat.le_of_eq rfl) (hb hby d40_45) (fun _ _ => ⟨rfl, rfl, (by decide : 1 + 0 ≤ _), (by decide : 2 + 0 ≤ _)⟩)
  dsimp only [Pt.U, Pt.locs, Pt.cells, Pt.slots] at X11 l11 y11 z11 st11 hQ11
  subst l11 y11 z11
  obtain ⟨rfl, N11q, e11⟩ := hQ11
  have N11 := Fr.app Nh9 N11q
  obtain ⟨Lh12, Xh12, Nh12⟩ := own_hide X11 N11
  refine own_pre (B := T11.setTop (mkF m 48 #[.val (.ref a1), .val (.ref a2), .val (.int (0 : Int32)), .val (.int (2 : Int32)), .val .null, .val (.ref b3_5)] [(.int (0 : Int32)), (.ref a1)])) (fun t k => st11 t k) ?_
  have c13 := (Exa.keep E_a1 K5)
  have c14 := (Fld.keep F_coder_a1 K5 nin0)
  have K15 : Keep h0 T5.heap [a1] := (Keep.trans K6 K5 all0)
  obtain ⟨T16, h16, X16, e16, W16, st16⟩ := putFN Xh12 hx hZ hown (hw _ (ow 89 rfl)) Via.refl e11 c14 c13 (Or.inr ⟨(hw _ (ow 5 rfl)), rfl, hnm⟩) (hw _ (ow 2 rfl)) (ty := .byte) (v' := (.int (0 : Int32))) (by decide) rfl rfl (g := (mkF m 48 #[.val (.ref a1), .val (.ref a2), .val (.int (0 : Int32)), .val (.int (2 : Int32)), .val .null, .val (.ref b3_5)] [(.int (0 : Int32)), (.ref a1)])) rfl rfl (hb hby d40_48)
  have Fw16 := Fld.same W16 c14
  have N16 := Fr.snoc X16 Nh12 g_a1
  obtain ⟨Lh17, Xh17, Nh17⟩ := own_hide X16 N16
  refine own_pre (B := T16.setTop (mkF m 51 #[.val (.ref a1), .val (.ref a2), .val (.int (0 : Int32)), .val (.int (2 : Int32)), .val .null, .val (.ref b3_5)] [])) (fun t k => st16 t k) ?_
  refine own_pre (B := T16.setTop (mkF m 52 #[.val (.ref a1), .val (.ref a2), .val (.int (0 : Int32)), .val (.int (2 : Int32)), .val .null, .val (.ref b3_5)] [(.ref a1)])) (fun t k => XS.aloadN Xh17.here hx rfl (hb hby d40_51) rfl rfl k) ?_
  refine own_pre (B := T16.setTop (mkF m 54 #[.val (.ref a1), .val (.ref a2), .val (.int (0 : Int32)), .val (.int (2 : Int32)), .val .null, .val (.ref b3_5)] [(.ref b3_5), (.ref a1)])) (fun t k => XS.aload Xh17.here hx rfl (hb hby d40_52) rfl rfl k) ?_
  have c18 := (Exa.wr W16 c13)
  have c19 := (Fld.other W16 (Fld.keep F_value_a1 K5 nin0) (Or.inr (slot_ne (Or.inr (hw _ (ow 4 rfl))) (Or.inr (hw _ (ow 5 rfl))) (by decide) (t := (.array .byte)) (t' := .byte) (by decide) (by decide))))
  have K20 : Keep h0 h16 [a1] := (Keep.wr K15 W16 (Or.inl (List.mem_of_getElem? (i := 0) rfl)))
  obtain ⟨T21, h21, X21, e21, W21, st21⟩ := putF Xh17 hx hZ hown (host := "") (Or.inl (hw _ (ow 82 rfl))) Via.refl e16 c19 c18 (Or.inr ⟨(hw _ (ow 4 rfl)), rfl, hnm⟩) (hw _ (ow 2 rfl)) (ty := (.array .byte)) (by decide) rfl rfl (g := (mkF m 54 #[.val (.ref a1), .val (.ref a2), .val (.int (0 : Int32)), .val (.int (2 : Int32)), .val .null, .val (.ref b3_5)] [(.ref b3_5), (.ref a1)])) rfl rfl (hb hby d40_54)
  have Fw21 := Fld.same W21 c19
  have N21 := Fr.snoc X21 Nh17 g_a1
  obtain ⟨Lh22, Xh22, Nh22⟩ := own_hide X21 N21
  refine own_pre (B := T21.setTop (mkF m 57 #[.val (.ref a1), .val (.ref a2), .val (.int (0 : Int32)), .val (.int (2 : Int32)), .val .null, .val (.ref b3_5)] [])) (fun t k => st21 t k) ?_
  have K23 : Keep h0 h21 [a1] := (Keep.wr K20 W21 (Or.inl (List.mem_of_getElem? (i := 0) rfl)))
  have c24 := (Exa.wr W21 c18)
  have c25 := (Fld.other W21 Fw16 (Or.inr (slot_ne (Or.inr (hw _ (ow 5 rfl))) (Or.inr (hw _ (ow 4 rfl))) (by decide) (t := .byte) (t' := (.array .byte)) (by decide) (by decide))))
  have c26 := (Exa.wr W21 (Exa.wr W16 q5_2))
  have c27 := (Arv.other (Arv.other q5_3 W16 (Ne.symm ne7)) W21 (Ne.symm ne7))
  obtain ⟨fsr28, hrr28, hrunr28, hendedr28, hWr28, hsamer28⟩ := Xh22.leave (v := none) (fun _ => rfl)
  refine ⟨_, _, (Xh22.returnOut hx Bd.returns (hb hby d40_57) hrr28), hrunr28, hendedr28, _, _, rfl, ?_, ⟨_, rfl⟩, hWr28, hsamer28.mono (by decide) (by decide)⟩
  show Q40 Z a1 a2 cs k_a2 c0 c1 u_coder_a1 u_value_a1 h0 n0 _ T21.heap _
  rw [e21]
  exact ⟨b3_5, k3_5, rfl, Nh22, K23, c24, c25, Fw21, q5_0, s_b3_5, c26, c27⟩
theorem pd_22 : parseMethodDescriptor "([CIILjava/lang/Void;)V" = some ⟨[(.array .char), .int, .int, (.object "java/lang/Void")], none⟩ := by decide +kernel
theorem d39_0 : decode jdk_42_method_3_code 0 = .ok (.aload_n 0, 1) := by decide +kernel
theorem d39_1 : decode jdk_42_method_3_code 1 = .ok (.aload_n 1, 1) := by decide +kernel
theorem d39_2 : decode jdk_42_method_3_code 2 = .ok (.iconst 0, 1) := by decide +kernel
theorem d39_3 : decode jdk_42_method_3_code 3 = .ok (.aload_n 1, 1) := by decide +kernel
theorem d39_4 : decode jdk_42_method_3_code 4 = .ok (.arraylength, 1) := by decide +kernel
theorem d39_5 : decode jdk_42_method_3_code 5 = .ok (.aconst_null, 1) := by decide +kernel
theorem d39_6 : decode jdk_42_method_3_code 6 = .ok (.invokespecial 27, 3) := by decide +kernel
theorem d39_9 : decode jdk_42_method_3_code 9 = .ok (.return_, 1) := by decide +kernel
theorem pn_39 : plainName "java/lang/String" = true := by first | (simp [plainName, overriddenIn]; done) | decide +kernel
theorem ef_39 (m : MethodId) (x0 : Addr) (x1 : Addr) : entryFrame m #[(.ref x0), (.ref x1)] 2 = mkF m 0 #[.val (.ref x0), .val (.ref x1)] [] := by first | (simp [entryFrame, mkF, argsToLocals, Value.category]; done) | rfl
def Q39 (Z : State) (a1 : Addr) (a2 : Addr) (cs : Int32) (u_value_a1 : Value) (u_coder_a1 : Value) (k_a2 : ClassId) (c0 : Int32) (c1 : Int32) (h0 : Heap) (n0 : Nat) (v : Option Value) (h : Heap) (L : List Loc) : Prop := ∃ (b3_5_4 : Addr) (k3_5_4 : ClassId), v = none ∧ Fr n0 L ∧ Keep h0 h [a1] ∧ Exa Z h a1 "java/lang/String" ∧ Fld Z h a1 "java/lang/String" "value" "[B" (.ref b3_5_4) ∧ Fld Z h a1 "java/lang/String" "coder" "B" (.int (0 : Int32)) ∧ n0 ≤ b3_5_4 ∧ h0.size ≤ b3_5_4 ∧ Exa Z h b3_5_4 "[B" ∧ Arv Z h b3_5_4 k3_5_4 .byte (2 : Int32) [(.int (nar .byte (c0.toInt8.toInt32))), (.int (nar .byte (c1.toInt8.toInt32)))] (.int (0 : Int32))
set_option maxRecDepth 65536 in
set_option maxHeartbeats 40000000 in
theorem rm39 (l : Launch) (Z : State) (a0 : Array Value) (hw : ∀ d ∈ tables_1, d.before a0 Z = true) (ws : List Jvm.Cond) (a1 : Addr) (a2 : Addr) (cs : Int32) (u_value_a1 : Value) (u_coder_a1 : Value) (k_a2 : ClassId) (c0 : Int32) (c1 : Int32) (h0 : Heap) (n0 : Nat) (Z0 : n0 ≤ h0.size) (O0 : Old Z n0 h0) (SCS : Sta Z Z.heap "java/lang/String" "COMPACT_STRINGS" "Z" (.int cs)) (hcs : ¬ cs = (0 : Int32)) (E_a1 : Exa Z h0 a1 "java/lang/String") (F_value_a1 : Fld Z h0 a1 "java/lang/String" "value" "[B" u_value_a1) (F_coder_a1 : Fld Z h0 a1 "java/lang/String" "coder" "B" u_coder_a1) (V_a2 : Arv Z h0 a2 k_a2 .char (2 : Int32) [(.int c0), (.int c1)] (.int (0 : Int32))) (hc0 : ¬ (255 : Int32) < c0) (hc1 : ¬ (255 : Int32) < c1) (g_a1 : n0 ≤ a1) :
    MetFree l (⟨"java/lang/String", "<init>", "([C)V"⟩ : MethodName) (head1 (Jvm.Cond.code (⟨"java/lang/String", "<init>", "([C)V"⟩ : MethodName) jdk_42_method_3_code 2 none :: ws) ({ frames := 3, cells := 1, slots := 2, locals := 52 } : Room)) (fun a U => a = #[(.ref a1), (.ref a2)] ∧ Z.Warmed39 U.vm ∧ U.heap = h0) (fun _ _ _ _ _ => True) (fun _ U o U' => ∃ v L, o = .returned v ∧ Q39 Z a1 a2 cs u_value_a1 u_coder_a1 k_a2 c0 c1 h0 n0 v U'.heap L ∧ FrameEnd U o U' L ({ frames := 3, cells := 1, slots := 2, locals := 52 } : Room).cells ({ frames := 3, cells := 1, slots := 2, locals := 52 } : Room).slots) := by
  refine MetFree.of_bodySF (plainFor_of_name pn_39) hisR ?_
  intro p e s m args below meth c s₁ Bd hml0 hP hK
  obtain ⟨rfl, hZ, hh⟩ := hP
  have hx := Bd.exec
  have hby := Bd.bytes
  have hml : c.maxLocals = 2 := hml0
  have hown : s.vm.findClass "java/lang/String" = some m.cls := findClass_of_methodNamed Bd.named
  have hnm := (name_of_methodNamed Bd.named Bd.method).1
  have X0 : Stand p l e ({ frames := 3, cells := 1, slots := 2, locals := 52 } : Room) s m #[(.ref a1), (.ref a2)] below meth c s₁ [] 0 0 := Stand.of_body Bd
  have e0 : s₁.heap = h0 := by rw [← hh, Bd.state]; rfl
  have N0 := Fr.nil n0
  apply own_in
  refine own_pre (B := s₁.setTop (mkF m 0 #[.val (.ref a1), .val (.ref a2)] [])) (fun t k => castTop (ef_39 m a1 a2) k) ?_
  refine own_pre (B := s₁.setTop (mkF m 1 #[.val (.ref a1), .val (.ref a2)] [(.ref a1)])) (fun t k => XS.aloadN X0.here hx rfl (hb hby d39_0) rfl rfl k) ?_
  refine own_pre (B := s₁.setTop (mkF m 2 #[.val (.ref a1), .val (.ref a2)] [(.ref a2), (.ref a1)])) (fun t k => XS.aloadN X0.here hx rfl (hb hby d39_1) rfl rfl k) ?_
  refine own_pre (B := s₁.setTop (mkF m 3 #[.val (.ref a1), .val (.ref a2)] [(.int (0 : Int32)), (.ref a2), (.ref a1)])) (fun t k => XS.iconst X0.here hx rfl (hb hby d39_2) k) ?_
  refine own_pre (B := s₁.setTop (mkF m 4 #[.val (.ref a1), .val (.ref a2)] [(.ref a2), (.int (0 : Int32)), (.ref a2), (.ref a1)])) (fun t k => XS.aloadN X0.here hx rfl (hb hby d39_3) rfl rfl k) ?_
  obtain ⟨cl3, Ar3, -, S3, N3v, -, -⟩ := id V_a2
  refine own_pre (B := s₁.setTop (mkF m 5 #[.val (.ref a1), .val (.ref a2)] [(.int (2 : Int32)), (.int (0 : Int32)), (.ref a2), (.ref a1)])) (fun t k => X0.arraylength hx (by rw [e0]; exact Ar3.1) (State.isArrayOf_alike hZ.alike Ar3.2.1) (g := (mkF m 4 #[.val (.ref a1), .val (.ref a2)] [(.ref a2), (.int (0 : Int32)), (.ref a2), (.ref a1)])) rfl rfl (hb hby d39_4) t (by rw [len_of S3 N3v]; exact k)) ?_
  refine own_pre (B := s₁.setTop (mkF m 6 #[.val (.ref a1), .val (.ref a2)] [.null, (.int (2 : Int32)), (.int (0 : Int32)), (.ref a2), (.ref a1)])) (fun t k => XS.aconstNull X0.here hx rfl (hb hby d39_5) k) ?_
  obtain ⟨_, _, ⟨T4, L4, k4, n4⟩, -, X4, ⟨Lc4, hQ4, l4, y4, z4⟩, st4⟩ := X0.specialBack hx (y := (⟨"java/lang/String", "<init>", "([CIILjava/lang/Void;)V"⟩ : MethodName)) rfl hown (mvT hZ (hw _ (ow 222 rfl))) (mvT hZ (hw _ (ow 223 rfl))) (mvT hZ (hw _ (ow 224 rfl))) (by decide) (backOf (W := 0) (rm40 l Z a0 hw [] a1 a2 cs k_a2 c0 c1 u_coder_a1 u_value_a1 h0 n0 Z0 O0 SCS hcs E_a1 V_a2 hc0 hc1 F_coder_a1 g_a1 F_value_a1) hZ (hw _ (ow 224 rfl)) (hw _ (ow 1 rfl)) (by decide) (by decide)) (g := (mkF m 6 #[.val (.ref a1), .val (.ref a2)] [.null, (.int (2 : Int32)), (.int (0 : Int32)), (.ref a2), (.ref a1)])) rfl (by rw [hml]; rfl) (Steps.refl _) (a := a1) (argsL := [(.ref a2), (.int (0 : Int32)), (.int (2 : Int32)), .null]) (rest := []) (lenOf pd_22 rfl) rfl (by show 2 * 0 + _ ≤ _; exact Nat.le_of_eq rfl) (hb hby d39_6) (fun _ _ => ⟨rfl, e0, (by decide : 0 + 1 ≤ _), (by decide : 0 + 2 ≤ _)⟩)
  dsimp only [Pt.U, Pt.locs, Pt.cells, Pt.slots] at X4 l4 y4 z4 st4 hQ4
  subst l4 y4 z4
  obtain ⟨b3_5_4, k3_5_4, rfl, N4q, K4, q4_0, q4_1, q4_2, q4_3, q4_4, q4_5, q4_6⟩ := hQ4
  have N4 := Fr.app N0 N4q
  have K5 : Keep h0 h0 [a1] := (Keep.refl h0 [a1])
  have ne6 : a1 ≠ b3_5_4 := Nat.ne_of_lt (Nat.lt_of_lt_of_le (Exa.lt E_a1) q4_4)
  have ne7 : a2 ≠ b3_5_4 := Nat.ne_of_lt (Nat.lt_of_lt_of_le (Arv.lt V_a2) q4_4)
  have s_b3_5_4 : h0.size ≤ b3_5_4 := Nat.le_trans K5.1 q4_4
  obtain ⟨Lh8, Xh8, Nh8⟩ := own_hide X4 N4
  refine own_pre (B := T4.setTop (mkF m 9 #[.val (.ref a1), .val (.ref a2)] [])) (fun t k => st4.trans k) ?_
  have K9 : Keep h0 T4.heap [a1] := (Keep.trans K5 K4 (allS (P := fun x => x ∈ [a1] ∨ h0.size ≤ x) (Or.inl (List.mem_of_getElem? (i := 0) rfl)) all0))
  obtain ⟨fsr10, hrr10, hrunr10, hendedr10, hWr10, hsamer10⟩ := Xh8.leave (v := none) (fun _ => rfl)
  refine ⟨_, _, (Xh8.returnOut hx Bd.returns (hb hby d39_9) hrr10), hrunr10, hendedr10, _, _, rfl, ?_, ⟨_, rfl⟩, hWr10, hsamer10.mono (by decide) (by decide)⟩
  show Q39 Z a1 a2 cs u_value_a1 u_coder_a1 k_a2 c0 c1 h0 n0 _ T4.heap _
  exact ⟨b3_5_4, k3_5_4, rfl, Nh8, K9, q4_0, q4_2, q4_1, q4_3, s_b3_5_4, q4_5, q4_6⟩
def own_I (B : Int) (c N : Int32) : Prop := 0 ≤ c.toInt ∧ c.toInt ≤ B ∧ c.toInt ≤ N.toInt ∧ 16 ≤ N.toInt ∧ N.toInt ≤ 172
def own_M (M : Int) (m : Int32) : Prop := 0 ≤ m.toInt ∧ m.toInt ≤ M
theorem own_I0 : own_I 0 (0 : Int32) (16 : Int32) := by unfold own_I; decide
theorem own_IA {B M : Int} {c N m : Int32} (h : own_I B c N) (q : own_M M m) (hB : B + M ≤ 85) : own_A c N m := by
  obtain ⟨h1, h2, h3, h4, h5⟩ := h
  obtain ⟨q1, q2⟩ := q
  exact ⟨h1, h3, h4, h5, q1, by omega⟩
theorem own_In {B M : Int} {c N m n : Int32} (h : own_I B c N) (q : own_M M m) (hB : B + M ≤ 85) (P : own_P n (c + m)) : own_I (B + M) (c + m) n := by
  have e := own_sum (own_IA h q hB)
  obtain ⟨h1, h2, h3, h4, h5⟩ := h
  obtain ⟨q1, q2⟩ := q
  obtain ⟨p1, p2, p3⟩ := P
  exact ⟨by omega, by omega, p3, p1, p2⟩
theorem own_IL {B : Int} {c N : Int32} (h : own_I B c N) : own_L c N := ⟨h.1, h.2.2.1, h.2.2.2.2⟩
theorem own_MJ (x : Int64) : own_M 21 (Jvm.Free.SBG.strSizeOfL x) := ⟨by have := (own_sizeJ x).2.1; omega, (own_sizeJ x).2.2⟩
theorem own_MI (x : Int32) : own_M 11 (Jvm.Free.SBG.strSizeOf x) := ⟨by have := (own_sizeI x).2.1; omega, (own_sizeI x).2.2⟩
theorem own_M1 : own_M 1 (1 : Int32) := by unfold own_M; decide
theorem pd_23 : parseMethodDescriptor "()V" = some ⟨[], none⟩ := by decide +kernel
theorem pd_24 : parseMethodDescriptor "(J)Ljava/lang/StringBuilder;" = some ⟨[.long], some (.object "java/lang/StringBuilder")⟩ := by decide +kernel
theorem pd_25 : parseMethodDescriptor "(Ljava/lang/String;)Ljava/lang/StringBuilder;" = some ⟨[(.object "java/lang/String")], some (.object "java/lang/StringBuilder")⟩ := by decide +kernel
theorem pd_26 : parseMethodDescriptor "(I)Ljava/lang/StringBuilder;" = some ⟨[.int], some (.object "java/lang/StringBuilder")⟩ := by decide +kernel
theorem pd_27 : parseMethodDescriptor "()Ljava/lang/String;" = some ⟨[], some (.object "java/lang/String")⟩ := by decide +kernel
theorem pd_28 : parseMethodDescriptor "(JIJJLjava/lang/String;Ljava/lang/String;)V" = some ⟨[.long, .int, .long, .long, (.object "java/lang/String"), (.object "java/lang/String")], none⟩ := by decide +kernel
theorem d1_0 : decode prog_37_method_1_code 0 = .ok (.aload_n 0, 1) := by decide +kernel
theorem d1_1 : decode prog_37_method_1_code 1 = .ok (.lload_n 1, 1) := by decide +kernel
theorem d1_2 : decode prog_37_method_1_code 2 = .ok (.iload_n 3, 1) := by decide +kernel
theorem d1_3 : decode prog_37_method_1_code 3 = .ok (.lload 4, 2) := by decide +kernel
theorem d1_5 : decode prog_37_method_1_code 5 = .ok (.lload 6, 2) := by decide +kernel
theorem d1_7 : decode prog_37_method_1_code 7 = .ok (.aload 8, 2) := by decide +kernel
theorem d1_9 : decode prog_37_method_1_code 9 = .ok (.new 1, 3) := by decide +kernel
theorem d1_12 : decode prog_37_method_1_code 12 = .ok (.dup, 1) := by decide +kernel
theorem d1_13 : decode prog_37_method_1_code 13 = .ok (.invokespecial 3, 3) := by decide +kernel
theorem d1_16 : decode prog_37_method_1_code 16 = .ok (.lload_n 1, 1) := by decide +kernel
theorem d1_17 : decode prog_37_method_1_code 17 = .ok (.invokevirtual 7, 3) := by decide +kernel
theorem d1_20 : decode prog_37_method_1_code 20 = .ok (.ldc 11, 2) := by decide +kernel
theorem d1_22 : decode prog_37_method_1_code 22 = .ok (.invokevirtual 13, 3) := by decide +kernel
theorem d1_25 : decode prog_37_method_1_code 25 = .ok (.iload_n 3, 1) := by decide +kernel
theorem d1_26 : decode prog_37_method_1_code 26 = .ok (.invokevirtual 16, 3) := by decide +kernel
theorem d1_29 : decode prog_37_method_1_code 29 = .ok (.ldc 11, 2) := by decide +kernel
theorem d1_31 : decode prog_37_method_1_code 31 = .ok (.invokevirtual 13, 3) := by decide +kernel
theorem d1_34 : decode prog_37_method_1_code 34 = .ok (.lload 4, 2) := by decide +kernel
theorem d1_36 : decode prog_37_method_1_code 36 = .ok (.invokevirtual 7, 3) := by decide +kernel
theorem d1_39 : decode prog_37_method_1_code 39 = .ok (.ldc 11, 2) := by decide +kernel
theorem d1_41 : decode prog_37_method_1_code 41 = .ok (.invokevirtual 13, 3) := by decide +kernel
theorem d1_44 : decode prog_37_method_1_code 44 = .ok (.lload 6, 2) := by decide +kernel
theorem d1_46 : decode prog_37_method_1_code 46 = .ok (.invokevirtual 7, 3) := by decide +kernel
theorem d1_49 : decode prog_37_method_1_code 49 = .ok (.ldc 11, 2) := by decide +kernel
theorem d1_51 : decode prog_37_method_1_code 51 = .ok (.invokevirtual 13, 3) := by decide +kernel
theorem d1_54 : decode prog_37_method_1_code 54 = .ok (.aload 8, 2) := by decide +kernel
theorem d1_56 : decode prog_37_method_1_code 56 = .ok (.invokevirtual 13, 3) := by decide +kernel
theorem d1_59 : decode prog_37_method_1_code 59 = .ok (.invokevirtual 19, 3) := by decide +kernel
theorem d1_62 : decode prog_37_method_1_code 62 = .ok (.invokespecial 23, 3) := by decide +kernel
theorem d1_65 : decode prog_37_method_1_code 65 = .ok (.return_, 1) := by decide +kernel
theorem pn_1 : plainName "com/example/internode_coordination/internodecoordination/member/LogEntry" = true := by first | (simp [plainName, overriddenIn]; done) | decide +kernel
theorem ef_1 (m : MethodId) (x0 : Addr) (x1 : Int64) (x2 : Int32) (x3 : Int64) (x4 : Int64) (x5 : Addr) : entryFrame m #[(.ref x0), (.long x1), (.int x2), (.long x3), (.long x4), (.ref x5)] 9 = mkF m 0 #[.val (.ref x0), .val (.long x1), .second, .val (.int x2), .val (.long x3), .second, .val (.long x4), .second, .val (.ref x5)] [] := by first | (simp [entryFrame, mkF, argsToLocals, Value.category]; done) | rfl
def Q1 (Z : State) (a1 : Addr) (q2 : Int64) (p3 : Int32) (q4 : Int64) (q5 : Int64) (a6 : Addr) (cs : Int32) (w_value_a6 : Addr) (k_w_value_a6 : ClassId) (ys : List Value) (mm : Int32) (u_term_a1 : Value) (u_origin_a1 : Value) (u_boot_a1 : Value) (u_sequence_a1 : Value) (u_command_a1 : Value) (u_text_a1 : Value) (h0 : Heap) (n0 : Nat) (v : Option Value) (h : Heap) (L : List Loc) : Prop := v = none ∧ Fr n0 L ∧ Keep h0 h [a1] ∧ Exa Z h a1 "com/example/internode_coordination/internodecoordination/member/LogEntry" ∧ Fld Z h a1 "com/example/internode_coordination/internodecoordination/member/LogEntry" "origin" "I" (.int p3)
set_option maxRecDepth 65536 in
set_option maxHeartbeats 40000000 in
theorem rm1 (l : Launch) (Z : State) (a0 : Array Value) (hw : ∀ d ∈ tables_1, d.before a0 Z = true) (ws : List Jvm.Cond) (a1 : Addr) (q2 : Int64) (p3 : Int32) (q4 : Int64) (q5 : Int64) (a6 : Addr) (cs : Int32) (w_value_a6 : Addr) (k_w_value_a6 : ClassId) (ys : List Value) (mm : Int32) (u_term_a1 : Value) (u_origin_a1 : Value) (u_boot_a1 : Value) (u_sequence_a1 : Value) (u_command_a1 : Value) (u_text_a1 : Value) (h0 : Heap) (n0 : Nat) (Z0 : n0 ≤ h0.size) (E_a1 : Exa Z h0 a1 "com/example/internode_coordination/internodecoordination/member/LogEntry") (O0 : Old Z n0 h0) (SCS : Sta Z Z.heap "java/lang/String" "COMPACT_STRINGS" "Z" (.int cs)) (hcs : ¬ cs = (0 : Int32)) (E_a6 : Exa Z h0 a6 "java/lang/String") (F_coder_a6 : Fld Z h0 a6 "java/lang/String" "coder" "B" (.int (0 : Int32))) (F_value_a6 : Fld Z h0 a6 "java/lang/String" "value" "[B" (.ref w_value_a6)) (V_w_value_a6 : Arv Z h0 w_value_a6 k_w_value_a6 .byte mm ys (.int (0 : Int32))) (TB : own_T Z) (hM : own_M 4 mm) (F_term_a1 : Fld Z h0 a1 "com/example/internode_coordination/internodecoordination/member/LogEntry" "term" "J" u_term_a1) (F_origin_a1 : Fld Z h0 a1 "com/example/internode_coordination/internodecoordination/member/LogEntry" "origin" "I" u_origin_a1) (F_boot_a1 : Fld Z h0 a1 "com/example/internode_coordination/internodecoordination/member/LogEntry" "boot" "J" u_boot_a1) (F_sequence_a1 : Fld Z h0 a1 "com/example/internode_coordination/internodecoordination/member/LogEntry" "sequence" "J" u_sequence_a1) (F_command_a1 : Fld Z h0 a1 "com/example/internode_coordination/internodecoordination/member/LogEntry" "command" "Ljava/lang/String;" u_command_a1) (F_text_a1 : Fld Z h0 a1 "com/example/internode_coordination/internodecoordination/member/LogEntry" "text" "Ljava/lang/String;" u_text_a1) (g_a1 : n0 ≤ a1) :
    MetFree l (⟨"com/example/internode_coordination/internodecoordination/member/LogEntry", "<init>", "(JIJJLjava/lang/String;)V"⟩ : MethodName) (head1 (Jvm.Cond.code (⟨"com/example/internode_coordination/internodecoordination/member/LogEntry", "<init>", "(JIJJLjava/lang/String;)V"⟩ : MethodName) prog_37_method_1_code 9 none :: ws) ({ frames := 6, cells := 15, slots := 1752, locals := 141 } : Room)) (fun a U => a = #[(.ref a1), (.long q2), (.int p3), (.long q4), (.long q5), (.ref a6)] ∧ Z.Warmed39 U.vm ∧ U.heap = h0 ∧ CHv Z consts_1 U.vm h0) (fun _ _ _ _ _ => True) (fun _ U o U' => ∃ v L, o = .returned v ∧ Q1 Z a1 q2 p3 q4 q5 a6 cs w_value_a6 k_w_value_a6 ys mm u_term_a1 u_origin_a1 u_boot_a1 u_sequence_a1 u_command_a1 u_text_a1 h0 n0 v U'.heap L ∧ CHr Z consts_1 U.vm U.heap U'.vm U'.heap ∧ ReturnedEndW U o U' L ({ frames := 6, cells := 15, slots := 1752, locals := 141 } : Room).cells ({ frames := 6, cells := 15, slots := 1752, locals := 141 } : Room).slots) := by
  refine MetFree.of_bodySF (plainFor_of_name pn_1) hisR ?_
  intro p e s m args below meth c s₁ Bd hml0 hP hK
  obtain ⟨rfl, hZ, hh, hCH⟩ := hP
  have hx := Bd.exec
  have hby := Bd.bytes
  have hml : c.maxLocals = 9 := hml0
  have hown : s.vm.findClass "com/example/internode_coordination/internodecoordination/member/LogEntry" = some m.cls := findClass_of_methodNamed Bd.named
  have hnm := (name_of_methodNamed Bd.named Bd.method).1
  have X0 : Stand p l e ({ frames := 6, cells := 15, slots := 1752, locals := 141 } : Room) s m #[(.ref a1), (.long q2), (.int p3), (.long q4), (.long q5), (.ref a6)] below meth c s₁ [] 0 0 := Stand.of_body Bd
  have e0 : s₁.heap = h0 := by rw [← hh, Bd.state]; rfl
  have N0 := Fr.nil n0
  apply own_in
  refine own_pre (B := s₁.setTop (mkF m 0 #[.val (.ref a1), .val (.long q2), .second, .val (.int p3), .val (.long q4), .second, .val (.long q5), .second, .val (.ref a6)] [])) (fun t k => castTop (ef_1 m a1 q2 p3 q4 q5 a6) k) ?_
  have hZ : Z.Warmed39 (s.setVm s.vm).vm := hZ
  have hown : (s.setVm s.vm).vm.findClass "com/example/internode_coordination/internodecoordination/member/LogEntry" = some m.cls := hown
  have X0 : Stand p l e ({ frames := 6, cells := 15, slots := 1752, locals := 141 } : Room) (s.setVm s.vm) m #[(.ref a1), (.long q2), (.int p3), (.long q4), (.long q5), (.ref a6)] below meth c s₁ [] 0 0 := X0
  have hS0 := own_since s h0.size
  have hk0 : h0.size ≤ h0.size := Nat.le_refl _
  have R0 := CHr.refl hCH
  refine own_pre (B := s₁.setTop (mkF m 1 #[.val (.ref a1), .val (.long q2), .second, .val (.int p3), .val (.long q4), .second, .val (.long q5), .second, .val (.ref a6)] [(.ref a1)])) (fun t k => XS.aloadN X0.here hx rfl (hb hby d1_0) rfl rfl k) ?_
  refine own_pre (B := s₁.setTop (mkF m 2 #[.val (.ref a1), .val (.long q2), .second, .val (.int p3), .val (.long q4), .second, .val (.long q5), .second, .val (.ref a6)] [(.long q2), (.ref a1)])) (fun t k => XS.lloadN X0.here hx rfl (hb hby d1_1) rfl k) ?_
  refine own_pre (B := s₁.setTop (mkF m 3 #[.val (.ref a1), .val (.long q2), .second, .val (.int p3), .val (.long q4), .second, .val (.long q5), .second, .val (.ref a6)] [(.int p3), (.long q2), (.ref a1)])) (fun t k => XS.iloadN X0.here hx rfl (hb hby d1_2) rfl k) ?_
  refine own_pre (B := s₁.setTop (mkF m 5 #[.val (.ref a1), .val (.long q2), .second, .val (.int p3), .val (.long q4), .second, .val (.long q5), .second, .val (.ref a6)] [(.long q4), (.int p3), (.long q2), (.ref a1)])) (fun t k => XS.lload X0.here hx rfl (hb hby d1_3) rfl k) ?_
  refine own_pre (B := s₁.setTop (mkF m 7 #[.val (.ref a1), .val (.long q2), .second, .val (.int p3), .val (.long q4), .second, .val (.long q5), .second, .val (.ref a6)] [(.long q5), (.long q4), (.int p3), (.long q2), (.ref a1)])) (fun t k => XS.lload X0.here hx rfl (hb hby d1_5) rfl k) ?_
  refine own_pre (B := s₁.setTop (mkF m 9 #[.val (.ref a1), .val (.long q2), .second, .val (.int p3), .val (.long q4), .second, .val (.long q5), .second, .val (.ref a6)] [(.ref a6), (.long q5), (.long q4), (.int p3), (.long q2), (.ref a1)])) (fun t k => XS.aload X0.here hx rfl (hb hby d1_7) rfl rfl k) ?_
  have K7 : Keep h0 h0 [a1] := (Keep.refl h0 [a1])
  obtain ⟨T8, h8, X8, e8, E8, A8, D8, -, st8⟩ := newO X0 hx hZ hown (hw _ (ow 14 rfl)) (hw _ (ow 15 rfl)) (hw _ (ow 16 rfl)) e0 (g := (mkF m 9 #[.val (.ref a1), .val (.long q2), .second, .val (.int p3), .val (.long q4), .second, .val (.long q5), .second, .val (.ref a6)] [(.ref a6), (.long q5), (.long q4), (.int p3), (.long q2), (.ref a1)])) rfl (hb hby d1_9) (by decide) (by decide)
  obtain ⟨b8, g8⟩ : ∃ z, z = h0.size := ⟨_, rfl⟩
  rw [← g8] at A8 D8 st8
  have g_b8 : n0 ≤ b8 := Nat.le_trans Z0 (Nat.le_of_eq g8.symm)
  have s_b8 : h0.size ≤ b8 := Nat.le_trans K7.1 (Nat.le_of_eq g8.symm)
  have ne9 : a6 ≠ b8 := Nat.ne_of_lt (Nat.lt_of_lt_of_le (Exa.lt E_a6) (Nat.le_of_eq g8.symm))
  have ne10 : a1 ≠ b8 := Nat.ne_of_lt (Nat.lt_of_lt_of_le (Exa.lt E_a1) (Nat.le_of_eq g8.symm))
  have ne11 : w_value_a6 ≠ b8 := Nat.ne_of_lt (Nat.lt_of_lt_of_le (Arv.lt V_w_value_a6) (Nat.le_of_eq g8.symm))
  have S12_b8 := Safe.ext E8 R0.1 (Safe.new (Nat.le_of_eq g8.symm))
  have R12 := CHr.trans R0 (CHr.ext E8 R0.1)
  have F_value_b8 : Fld Z h8 b8 "java/lang/AbstractStringBuilder" "value" "[B" .null := D8 (Or.inl (hw _ (ow 31 rfl))) (ty := (.array .byte)) (by decide)
  have F_coder_b8 : Fld Z h8 b8 "java/lang/AbstractStringBuilder" "coder" "B" (.int (0 : Int32)) := D8 (Or.inl (hw _ (ow 33 rfl))) (ty := .byte) (by decide)
  have F_count_b8 : Fld Z h8 b8 "java/lang/AbstractStringBuilder" "count" "I" (.int (0 : Int32)) := D8 (Or.inl (hw _ (ow 45 rfl))) (ty := .int) (by decide)
  refine own_pre (B := T8.setTop (mkF m 12 #[.val (.ref a1), .val (.long q2), .second, .val (.int p3), .val (.long q4), .second, .val (.long q5), .second, .val (.ref a6)] [(.ref b8), (.ref a6), (.long q5), (.long q4), (.int p3), (.long q2), (.ref a1)])) (fun t k => st8 t k) ?_
  refine own_pre (B := T8.setTop (mkF m 13 #[.val (.ref a1), .val (.long q2), .second, .val (.int p3), .val (.long q4), .second, .val (.long q5), .second, .val (.ref a6)] [(.ref b8), (.ref b8), (.ref a6), (.long q5), (.long q4), (.int p3), (.long q2), (.ref a1)])) (fun t k => XS.dup X8.here hx rfl (hb hby d1_12) rfl rfl k) ?_
  have O13 := (Old.ext O0 E8)
  have sz14 : n0 ≤ h8.size := (Nat.le_trans Z0 E8.1)
  obtain ⟨_, _, ⟨T15, L15, k15, n15⟩, -, X15, ⟨Lc15, hQ15, l15, y15, z15⟩, st15⟩ := X8.specialBack hx (y := (⟨"java/lang/StringBuilder", "<init>", "()V"⟩ : MethodName)) rfl hown (mvT hZ (hw _ (ow 17 rfl))) (mvT hZ (hw _ (ow 18 rfl))) (mvT hZ (hw _ (ow 19 rfl))) (by decide) (backOf (W := 10) (rm2 l Z a0 hw [] b8 cs .null (.int (0 : Int32)) (0 : Int32) h8 n0 sz14 O13 SCS hcs A8 F_value_b8 F_coder_b8 F_count_b8 g_b8) hZ (hw _ (ow 19 rfl)) (hw _ (ow 16 rfl)) (by decide) (by decide)) (g := (mkF m 13 #[.val (.ref a1), .val (.long q2), .second, .val (.int p3), .val (.long q4), .second, .val (.long q5), .second, .val (.ref a6)] [(.ref b8), (.ref b8), (.ref a6), (.long q5), (.long q4), (.int p3), (.long q2), (.ref a1)])) rfl (by rw [hml]; rfl) (Steps.refl _) (a := b8) (argsL := []) (rest := [(.ref b8), (.ref a6), (.long q5), (.long q4), (.int p3), (.long q2), (.ref a1)]) (lenOf pd_23 rfl) rfl (by show 2 * 0 + _ ≤ _; exact Nat.le_of_eq rfl) (hb hby d1_13) (fun _ _ => ⟨rfl, e8, (by decide : 1 + 1 ≤ _), (by decide : 4 + 16 ≤ _)⟩)
  dsimp only [Pt.U, Pt.locs, Pt.cells, Pt.slots] at X15 l15 y15 z15 st15 hQ15
  subst l15 y15 z15
  obtain ⟨b5_2_15, k5_2_15, rfl, N15q, K15, q15_0, q15_1, q15_2, q15_3, q15_4, q15_5, q15_6, q15_7⟩ := hQ15
  have N15 := Fr.app N0 N15q
  have K16 : Keep h0 h8 [a1] := (Keep.ext K7 E8)
  have c17 := (E_a6.ext E8)
  have ne18 : a6 ≠ b5_2_15 := Nat.ne_of_lt (Nat.lt_of_lt_of_le (Exa.lt c17) q15_5)
  have c19 := (E_a1.ext E8)
  have ne20 : a1 ≠ b5_2_15 := Nat.ne_of_lt (Nat.lt_of_lt_of_le (Exa.lt c19) q15_5)
  have ne21 : b8 ≠ b5_2_15 := Nat.ne_of_lt (Nat.lt_of_lt_of_le (Exa.lt A8) q15_5)
  have c22 := (Arv.ext V_w_value_a6 E8)
  have ne23 : w_value_a6 ≠ b5_2_15 := Nat.ne_of_lt (Nat.lt_of_lt_of_le (Arv.lt c22) q15_5)
  have s_b5_2_15 : h0.size ≤ b5_2_15 := Nat.le_trans K16.1 q15_5
  have S24_b8 := Safe.keep K15 (sfS S12_b8 sf0) R12.1 S12_b8
  have S24_b5_2_15 := Safe.keep K15 (sfS S12_b8 sf0) R12.1 (Safe.new q15_5)
  have R24 := CHr.trans R12 (CHr.keep K15 (sfS S12_b8 sf0) R12.1)
  obtain ⟨Lh25, Xh25, Nh25⟩ := own_hide X15 N15
  refine own_pre (B := T15.setTop (mkF m 16 #[.val (.ref a1), .val (.long q2), .second, .val (.int p3), .val (.long q4), .second, .val (.long q5), .second, .val (.ref a6)] [(.ref b8), (.ref a6), (.long q5), (.long q4), (.int p3), (.long q2), (.ref a1)])) (fun t k => st15.trans k) ?_
  refine own_pre (B := T15.setTop (mkF m 17 #[.val (.ref a1), .val (.long q2), .second, .val (.int p3), .val (.long q4), .second, .val (.long q5), .second, .val (.ref a6)] [(.long q2), (.ref b8), (.ref a6), (.long q5), (.long q4), (.int p3), (.long q2), (.ref a1)])) (fun t k => XS.lloadN Xh25.here hx rfl (hb hby d1_16) rfl k) ?_
  have O26 := (Old.keep O13 K15 (allS (P := fun x => n0 ≤ x) g_b8 all0))
  have sz27 : n0 ≤ T15.heap.size := (Nat.le_trans sz14 K15.1)
  obtain ⟨cq28, kq28, q28a, q28b, q28c⟩ := isOf hZ rfl q15_0
  obtain ⟨_, _, ⟨T28, L28, k28, n28⟩, -, X28, ⟨Lc28, hQ28, l28, y28, z28⟩, st28⟩ := Xh25.virtualBack hx (y := (⟨"java/lang/StringBuilder", "append", "(J)Ljava/lang/StringBuilder;"⟩ : MethodName)) (z := (⟨"java/lang/StringBuilder", "append", "(J)Ljava/lang/StringBuilder;"⟩ : MethodName)) hown (mvT hZ (hw _ (ow 34 rfl))) (mvT hZ (hw _ (ow 35 rfl))) (notFace_of_selects (args := #[]) (mvT hZ (hw _ (ow 37 rfl)))) (mvT hZ (hw _ (ow 37 rfl))) (mvT hZ (hw _ (ow 36 rfl))) (by decide) (backOf (W := 9) (rm5 l Z a0 hw [] b8 q2 b5_2_15 k5_2_15 [(.int (0 : Int32)), (.int (0 : Int32)), (.int (0 : Int32)), (.int (0 : Int32)), (.int (0 : Int32)), (.int (0 : Int32)), (.int (0 : Int32)), (.int (0 : Int32)), (.int (0 : Int32)), (.int (0 : Int32)), (.int (0 : Int32)), (.int (0 : Int32)), (.int (0 : Int32)), (.int (0 : Int32)), (.int (0 : Int32)), (.int (0 : Int32))] (16 : Int32) (0 : Int32) cs T15.heap n0 sz27 q15_0 q15_1 q15_2 q15_7 q15_6 q15_3 ne21 g_b8 q15_4 O26 SCS hcs TB (own_IA own_I0 (own_MJ _) (by decide))) hZ (hw _ (ow 38 rfl)) (hw _ (ow 16 rfl)) (by decide) (by decide)) q28a q28c (g := (mkF m 17 #[.val (.ref a1), .val (.long q2), .second, .val (.int p3), .val (.long q4), .second, .val (.long q5), .second, .val (.ref a6)] [(.long q2), (.ref b8), (.ref a6), (.long q5), (.long q4), (.int p3), (.long q2), (.ref a1)])) rfl (by rw [hml]; rfl) (Steps.refl _) (argsL := [(.long q2)]) (rest := [(.ref a6), (.long q5), (.long q4), (.int p3), (.long q2), (.ref a1)]) (lenOf pd_24 rfl) rfl (by show 2 * 0 + _ ≤ _; exact Nat.le_of_eq rfl) (hb hby d1_17) (fun _ _ => ⟨rfl, rfl, (by decide : 2 + 1 ≤ _), (by decide : 20 + 172 ≤ _)⟩)
  dsimp only [Pt.U, Pt.locs, Pt.cells, Pt.slots] at X28 l28 y28 z28 st28 hQ28
  subst l28 y28 z28
  obtain ⟨vx_28, kx_28, nx_28, xx_28, rfl, N28q, K28, gv28, ov28, nv28, P28, qE28, qV28, qC28, qN28, qX28, qA28⟩ := hQ28
  have N28 := Fr.app Nh25 N28q
  have K29 : Keep h0 T15.heap [a1] := (Keep.trans K16 K15 (allS (P := fun x => x ∈ [a1] ∨ h0.size ≤ x) (Or.inr s_b8) all0))
  have c30 := (Exa.keep c19 K15)
  have ne31 : a1 ≠ vx_28 := own_neq ov28 ne20 (Exa.lt c30)
  have c32 := (Exa.keep c17 K15)
  have ne33 : a6 ≠ vx_28 := own_neq ov28 ne18 (Exa.lt c32)
  have c34 := (Arv.keep c22 K15 (ninS ne11 nin0))
  have ne35 : w_value_a6 ≠ vx_28 := own_neq ov28 ne23 (Arv.lt c34)
  have s_vx_28 : h0.size ≤ vx_28 := own_frs ov28 s_b5_2_15 K29.1
  have S36_b8 := Safe.keep K28 (sfS S24_b8 (sfS S24_b5_2_15 sf0)) R24.1 S24_b8
  have S36_b5_2_15 := Safe.keep K28 (sfS S24_b8 (sfS S24_b5_2_15 sf0)) R24.1 S24_b5_2_15
  have S36_vx_28 := Safe.keep K28 (sfS S24_b8 (sfS S24_b5_2_15 sf0)) R24.1 (own_sfx ov28 S24_b5_2_15)
  have R36 := CHr.trans R24 (CHr.keep K28 (sfS S24_b8 (sfS S24_b5_2_15 sf0)) R24.1)
  obtain ⟨Lh37, Xh37, Nh37⟩ := own_hide X28 N28
  refine own_pre (B := T28.setTop (mkF m 20 #[.val (.ref a1), .val (.long q2), .second, .val (.int p3), .val (.long q4), .second, .val (.long q5), .second, .val (.ref a6)] [(.ref b8), (.ref a6), (.long q5), (.long q4), (.int p3), (.long q2), (.ref a1)])) (fun t k => st28.trans k) ?_
  have K38 : Keep h0 T28.heap [a1] := (Keep.trans K29 K28 (allS (P := fun x => x ∈ [a1] ∨ h0.size ≤ x) (Or.inr s_b8) (allS (P := fun x => x ∈ [a1] ∨ h0.size ≤ x) (Or.inr s_b5_2_15) all0)))
  have c39 := (Exa.keep q15_6 K28)
  obtain ⟨a40, T40, h40, kk40, b40, k40, X40, e40, E40, hS40, hk40, hZ, hown, qE40, qC40, qV40, qA40, la40, lb40, Rl40, Li40, ns40, st40⟩ := ldcCH Xh37 hx hZ hown (hw _ (ow 67 rfl)) (own_wS hw) rfl hS0 (Nat.le_trans (Nat.le_trans (Nat.le_trans hk0 E8.1) K15.1) K28.1) (own_EW hw) (by decide) R36.1 (vs := [(.int (32 : Int32))]) (z := (1 : Int32)) ⟨by decide, by decide⟩ (by decide) (by decide) (g := (mkF m 20 #[.val (.ref a1), .val (.long q2), .second, .val (.int p3), .val (.long q4), .second, .val (.long q5), .second, .val (.ref a6)] [(.ref b8), (.ref a6), (.long q5), (.long q4), (.int p3), (.long q2), (.ref a1)])) rfl (hb hby d1_20) (n := 4) (by decide) (by decide) (by decide) (by decide)
  have S40_b8 := CHr.safe Rl40 (Exa.lt qE28) S36_b8
  have S40_b5_2_15 := CHr.safe Rl40 (Exa.lt c39) S36_b5_2_15
  have S40_vx_28 := CHr.safe Rl40 (Exa.lt qX28) S36_vx_28
  have R40 := CHr.trans R36 Rl40
  have c42 := ((Exa.keep c30 K28).ext E40)
  have ne41 : a40 ≠ a1 := Exa.ne qE40 c42 (by decide)
  have ne43 : a1 ≠ b40 := Exa.neArv c42 qA40 (hw _ (ow 9 rfl))
  have c45 := (qE28.ext E40)
  have ne44 : a40 ≠ b8 := Exa.ne qE40 c45 (by decide)
  have ne46 : b8 ≠ b40 := Exa.neArv c45 qA40 (hw _ (ow 15 rfl))
  have c48 := (c39.ext E40)
  have ne47 : a40 ≠ b5_2_15 := Exa.ne qE40 c48 (by decide)
  have c50 := (qX28.ext E40)
  have ne49 : a40 ≠ vx_28 := Exa.ne qE40 c50 (by decide)
  have ne51 : b8 ≠ b40 := (ns40 _ S40_b8).2
  have ne52 : b5_2_15 ≠ b40 := (ns40 _ S40_b5_2_15).2
  have ne53 : vx_28 ≠ b40 := (ns40 _ S40_vx_28).2
  refine own_pre (B := T40.setTop (mkF m 22 #[.val (.ref a1), .val (.long q2), .second, .val (.int p3), .val (.long q4), .second, .val (.long q5), .second, .val (.ref a6)] [(.ref a40), (.ref b8), (.ref a6), (.long q5), (.long q4), (.int p3), (.long q2), (.ref a1)])) (fun t k => st40 t k) ?_
  have c54 := (qV28.ext E40)
  have c55 := (qC28.ext E40)
  have c56 := (Arv.ext qA28 E40)
  have c57 := (qN28.ext E40)
  have O58 := (Old.ext (Old.keep O26 K28 (allS (P := fun x => n0 ≤ x) g_b8 (allS (P := fun x => n0 ≤ x) q15_4 all0))) E40)
  have I59 := own_In own_I0 (own_MJ _) (by decide) P28
  have sz60 : n0 ≤ h40.size := (Nat.le_trans (Nat.le_trans sz27 K28.1) E40.1)
  obtain ⟨cq61, kq61, q61a, q61b, q61c⟩ := isOf hZ e40 c45
  obtain ⟨_, _, ⟨T61, L61, k61, n61⟩, -, X61, ⟨Lc61, hQ61, l61, y61, z61⟩, st61⟩ := X40.virtualBack hx (y := (⟨"java/lang/StringBuilder", "append", "(Ljava/lang/String;)Ljava/lang/StringBuilder;"⟩ : MethodName)) (z := (⟨"java/lang/StringBuilder", "append", "(Ljava/lang/String;)Ljava/lang/StringBuilder;"⟩ : MethodName)) hown (mvT hZ (hw _ (ow 68 rfl))) (mvT hZ (hw _ (ow 69 rfl))) (notFace_of_selects (args := #[]) (mvT hZ (hw _ (ow 71 rfl)))) (mvT hZ (hw _ (ow 71 rfl))) (mvT hZ (hw _ (ow 70 rfl))) (by decide) (backOf (W := 9) (rm11 l Z a0 hw [] b8 a40 vx_28 kx_28 xx_28 nx_28 ((0 : Int32) + (Jvm.Free.SBG.strSizeOfL q2)) cs b40 k40 [(.int (32 : Int32))] (1 : Int32) h40 n0 sz60 c45 c54 c55 c56 c50 c57 nv28 g_b8 gv28 O58 SCS hcs qE40 qC40 qV40 qA40 ne44 ne49 (Ne.symm ne51) (Ne.symm ne53) (own_IA I59 own_M1 (by decide))) hZ (hw _ (ow 72 rfl)) (hw _ (ow 16 rfl)) (by decide) (by decide)) q61a q61c (g := (mkF m 22 #[.val (.ref a1), .val (.long q2), .second, .val (.int p3), .val (.long q4), .second, .val (.long q5), .second, .val (.ref a6)] [(.ref a40), (.ref b8), (.ref a6), (.long q5), (.long q4), (.int p3), (.long q2), (.ref a1)])) rfl (by rw [hml]; rfl) (Steps.refl _) (argsL := [(.ref a40)]) (rest := [(.ref a6), (.long q5), (.long q4), (.int p3), (.long q2), (.ref a1)]) (lenOf pd_25 rfl) rfl (by show 2 * 0 + _ ≤ _; exact Nat.le_of_eq rfl) (hb hby d1_22) (fun _ _ => ⟨rfl, e40, (by decide : 5 + 1 ≤ _), (by decide : 200 + 172 ≤ _)⟩)
  dsimp only [Pt.U, Pt.locs, Pt.cells, Pt.slots] at X61 l61 y61 z61 st61 hQ61
  subst l61 y61 z61
  obtain ⟨vx_61, kx_61, nx_61, xx_61, rfl, N61q, K61, gv61, ov61, nv61, P61, qE61, qV61, qC61, qN61, qX61, qA61⟩ := hQ61
  have N61 := Fr.app Nh37 N61q
  have K62 : Keep h0 h40 [a1] := (Keep.ext K38 E40)
  have ne63 : a1 ≠ vx_61 := own_neq ov61 ne31 (Exa.lt c42)
  have c64 := ((Exa.keep c32 K28).ext E40)
  have ne65 : a6 ≠ vx_61 := own_neq ov61 ne33 (Exa.lt c64)
  have ne66 : a40 ≠ vx_61 := own_neq ov61 ne49 (Exa.lt qE40)
  have c67 := (Arv.ext (Arv.keep c34 K28 (ninS ne11 (ninS ne23 nin0))) E40)
  have ne68 : w_value_a6 ≠ vx_61 := own_neq ov61 ne35 (Arv.lt c67)
  have ne69 : b40 ≠ vx_61 := own_neq ov61 (Ne.symm ne53) (Arv.lt qA40)
  have s_vx_61 : h0.size ≤ vx_61 := own_frs ov61 s_vx_28 K62.1
  have S70_b8 := Safe.keep K61 (sfS S40_b8 (sfS S40_vx_28 sf0)) R40.1 S40_b8
  have S70_b5_2_15 := Safe.keep K61 (sfS S40_b8 (sfS S40_vx_28 sf0)) R40.1 S40_b5_2_15
  have S70_vx_28 := Safe.keep K61 (sfS S40_b8 (sfS S40_vx_28 sf0)) R40.1 S40_vx_28
  have S70_vx_61 := Safe.keep K61 (sfS S40_b8 (sfS S40_vx_28 sf0)) R40.1 (own_sfx ov61 S40_vx_28)
  have R70 := CHr.trans R40 (CHr.keep K61 (sfS S40_b8 (sfS S40_vx_28 sf0)) R40.1)
  obtain ⟨Lh71, Xh71, Nh71⟩ := own_hide X61 N61
  refine own_pre (B := T61.setTop (mkF m 25 #[.val (.ref a1), .val (.long q2), .second, .val (.int p3), .val (.long q4), .second, .val (.long q5), .second, .val (.ref a6)] [(.ref b8), (.ref a6), (.long q5), (.long q4), (.int p3), (.long q2), (.ref a1)])) (fun t k => st61.trans k) ?_
  refine own_pre (B := T61.setTop (mkF m 26 #[.val (.ref a1), .val (.long q2), .second, .val (.int p3), .val (.long q4), .second, .val (.long q5), .second, .val (.ref a6)] [(.int p3), (.ref b8), (.ref a6), (.long q5), (.long q4), (.int p3), (.long q2), (.ref a1)])) (fun t k => XS.iloadN Xh71.here hx rfl (hb hby d1_25) rfl k) ?_
  have O72 := (Old.keep O58 K61 (allS (P := fun x => n0 ≤ x) g_b8 (allS (P := fun x => n0 ≤ x) gv28 all0)))
  have I73 := own_In I59 own_M1 (by decide) P61
  have sz74 : n0 ≤ T61.heap.size := (Nat.le_trans sz60 K61.1)
  obtain ⟨cq75, kq75, q75a, q75b, q75c⟩ := isOf hZ rfl qE61
  obtain ⟨_, _, ⟨T75, L75, k75, n75⟩, -, X75, ⟨Lc75, hQ75, l75, y75, z75⟩, st75⟩ := Xh71.virtualBack hx (y := (⟨"java/lang/StringBuilder", "append", "(I)Ljava/lang/StringBuilder;"⟩ : MethodName)) (z := (⟨"java/lang/StringBuilder", "append", "(I)Ljava/lang/StringBuilder;"⟩ : MethodName)) hown (mvT hZ (hw _ (ow 110 rfl))) (mvT hZ (hw _ (ow 111 rfl))) (notFace_of_selects (args := #[]) (mvT hZ (hw _ (ow 113 rfl)))) (mvT hZ (hw _ (ow 113 rfl))) (mvT hZ (hw _ (ow 112 rfl))) (by decide) (backOf (W := 9) (rm18 l Z a0 hw [] b8 p3 vx_61 kx_61 xx_61 nx_61 (((0 : Int32) + (Jvm.Free.SBG.strSizeOfL q2)) + (1 : Int32)) cs T61.heap n0 sz74 qE61 qV61 qC61 qA61 qX61 qN61 nv61 g_b8 gv61 O72 SCS hcs TB (own_IA I73 (own_MI _) (by decide))) hZ (hw _ (ow 114 rfl)) (hw _ (ow 16 rfl)) (by decide) (by decide)) q75a q75c (g := (mkF m 26 #[.val (.ref a1), .val (.long q2), .second, .val (.int p3), .val (.long q4), .second, .val (.long q5), .second, .val (.ref a6)] [(.int p3), (.ref b8), (.ref a6), (.long q5), (.long q4), (.int p3), (.long q2), (.ref a1)])) rfl (by rw [hml]; rfl) (Steps.refl _) (argsL := [(.int p3)]) (rest := [(.ref a6), (.long q5), (.long q4), (.int p3), (.long q2), (.ref a1)]) (lenOf pd_26 rfl) rfl (by show 2 * 0 + _ ≤ _; exact Nat.le_of_eq rfl) (hb hby d1_26) (fun _ _ => ⟨rfl, rfl, (by decide : 6 + 1 ≤ _), (by decide : 372 + 172 ≤ _)⟩)
  dsimp only [Pt.U, Pt.locs, Pt.cells, Pt.slots] at X75 l75 y75 z75 st75 hQ75
  subst l75 y75 z75
  obtain ⟨vx_75, kx_75, nx_75, xx_75, rfl, N75q, K75, gv75, ov75, nv75, P75, qE75, qV75, qC75, qN75, qX75, qA75⟩ := hQ75
  have N75 := Fr.app Nh71 N75q
  have K76 : Keep h0 T61.heap [a1] := (Keep.trans K62 K61 (allS (P := fun x => x ∈ [a1] ∨ h0.size ≤ x) (Or.inr s_b8) (allS (P := fun x => x ∈ [a1] ∨ h0.size ≤ x) (Or.inr s_vx_28) all0)))
  have c77 := (Exa.keep c42 K61)
  have ne78 : a1 ≠ vx_75 := own_neq ov75 ne63 (Exa.lt c77)
  have c79 := (Exa.keep c64 K61)
  have ne80 : a6 ≠ vx_75 := own_neq ov75 ne65 (Exa.lt c79)
  have c81 := (Exa.keep qE40 K61)
  have ne82 : a40 ≠ vx_75 := own_neq ov75 ne66 (Exa.lt c81)
  have c83 := (Arv.keep c67 K61 (ninS ne11 (ninS ne35 nin0)))
  have ne84 : w_value_a6 ≠ vx_75 := own_neq ov75 ne68 (Arv.lt c83)
  have c85 := (Arv.keep qA40 K61 (ninS (Ne.symm ne51) (ninS (Ne.symm ne53) nin0)))
  have ne86 : b40 ≠ vx_75 := own_neq ov75 ne69 (Arv.lt c85)
  have s_vx_75 : h0.size ≤ vx_75 := own_frs ov75 s_vx_61 K76.1
  have S87_b8 := Safe.keep K75 (sfS S70_b8 (sfS S70_vx_61 sf0)) R70.1 S70_b8
  have S87_b5_2_15 := Safe.keep K75 (sfS S70_b8 (sfS S70_vx_61 sf0)) R70.1 S70_b5_2_15
  have S87_vx_28 := Safe.keep K75 (sfS S70_b8 (sfS S70_vx_61 sf0)) R70.1 S70_vx_28
  have S87_vx_61 := Safe.keep K75 (sfS S70_b8 (sfS S70_vx_61 sf0)) R70.1 S70_vx_61
  have S87_vx_75 := Safe.keep K75 (sfS S70_b8 (sfS S70_vx_61 sf0)) R70.1 (own_sfx ov75 S70_vx_61)
  have R87 := CHr.trans R70 (CHr.keep K75 (sfS S70_b8 (sfS S70_vx_61 sf0)) R70.1)
  obtain ⟨Lh88, Xh88, Nh88⟩ := own_hide X75 N75
  refine own_pre (B := T75.setTop (mkF m 29 #[.val (.ref a1), .val (.long q2), .second, .val (.int p3), .val (.long q4), .second, .val (.long q5), .second, .val (.ref a6)] [(.ref b8), (.ref a6), (.long q5), (.long q4), (.int p3), (.long q2), (.ref a1)])) (fun t k => st75.trans k) ?_
  have K89 : Keep h0 T75.heap [a1] := (Keep.trans K76 K75 (allS (P := fun x => x ∈ [a1] ∨ h0.size ≤ x) (Or.inr s_b8) (allS (P := fun x => x ∈ [a1] ∨ h0.size ≤ x) (Or.inr s_vx_61) all0)))
  refine own_pre (B := T75.setTop (mkF m 31 #[.val (.ref a1), .val (.long q2), .second, .val (.int p3), .val (.long q4), .second, .val (.long q5), .second, .val (.ref a6)] [(.ref a40), (.ref b8), (.ref a6), (.long q5), (.long q4), (.int p3), (.long q2), (.ref a1)])) (fun t k => ldcAgain Xh88 hx hZ hown (hw _ (ow 67 rfl)) Li40 (g := (mkF m 29 #[.val (.ref a1), .val (.long q2), .second, .val (.int p3), .val (.long q4), .second, .val (.long q5), .second, .val (.ref a6)] [(.ref b8), (.ref a6), (.long q5), (.long q4), (.int p3), (.long q2), (.ref a1)])) rfl (hb hby d1_29) t k) ?_
  have O90 := (Old.keep O72 K75 (allS (P := fun x => n0 ≤ x) g_b8 (allS (P := fun x => n0 ≤ x) gv61 all0)))
  have c91 := (Exa.keep c81 K75)
  have c92 := (Fld.keep (Fld.keep qC40 K61 (ninS ne44 (ninS ne49 nin0))) K75 (ninS ne44 (ninS ne66 nin0)))
  have c93 := (Fld.keep (Fld.keep qV40 K61 (ninS ne44 (ninS ne49 nin0))) K75 (ninS ne44 (ninS ne66 nin0)))
  have c94 := (Arv.keep c85 K75 (ninS (Ne.symm ne51) (ninS ne69 nin0)))
  have I95 := own_In I73 (own_MI _) (by decide) P75
  have sz96 : n0 ≤ T75.heap.size := (Nat.le_trans sz74 K75.1)
  obtain ⟨cq97, kq97, q97a, q97b, q97c⟩ := isOf hZ rfl qE75
  obtain ⟨_, _, ⟨T97, L97, k97, n97⟩, -, X97, ⟨Lc97, hQ97, l97, y97, z97⟩, st97⟩ := Xh88.virtualBack hx (y := (⟨"java/lang/StringBuilder", "append", "(Ljava/lang/String;)Ljava/lang/StringBuilder;"⟩ : MethodName)) (z := (⟨"java/lang/StringBuilder", "append", "(Ljava/lang/String;)Ljava/lang/StringBuilder;"⟩ : MethodName)) hown (mvT hZ (hw _ (ow 68 rfl))) (mvT hZ (hw _ (ow 69 rfl))) (notFace_of_selects (args := #[]) (mvT hZ (hw _ (ow 71 rfl)))) (mvT hZ (hw _ (ow 71 rfl))) (mvT hZ (hw _ (ow 70 rfl))) (by decide) (backOf (W := 9) (rm11 l Z a0 hw [] b8 a40 vx_75 kx_75 xx_75 nx_75 ((((0 : Int32) + (Jvm.Free.SBG.strSizeOfL q2)) + (1 : Int32)) + (Jvm.Free.SBG.strSizeOf p3)) cs b40 k40 [(.int (32 : Int32))] (1 : Int32) T75.heap n0 sz96 qE75 qV75 qC75 qA75 qX75 qN75 nv75 g_b8 gv75 O90 SCS hcs c91 c92 c93 c94 ne44 ne82 (Ne.symm ne51) ne86 (own_IA I95 own_M1 (by decide))) hZ (hw _ (ow 72 rfl)) (hw _ (ow 16 rfl)) (by decide) (by decide)) q97a q97c (g := (mkF m 31 #[.val (.ref a1), .val (.long q2), .second, .val (.int p3), .val (.long q4), .second, .val (.long q5), .second, .val (.ref a6)] [(.ref a40), (.ref b8), (.ref a6), (.long q5), (.long q4), (.int p3), (.long q2), (.ref a1)])) rfl (by rw [hml]; rfl) (Steps.refl _) (argsL := [(.ref a40)]) (rest := [(.ref a6), (.long q5), (.long q4), (.int p3), (.long q2), (.ref a1)]) (lenOf pd_25 rfl) rfl (by show 2 * 0 + _ ≤ _; exact Nat.le_of_eq rfl) (hb hby d1_31) (fun _ _ => ⟨rfl, rfl, (by decide : 7 + 1 ≤ _), (by decide : 544 + 172 ≤ _)⟩)
  dsimp only [Pt.U, Pt.locs, Pt.cells, Pt.slots] at X97 l97 y97 z97 st97 hQ97
  subst l97 y97 z97
  obtain ⟨vx_97, kx_97, nx_97, xx_97, rfl, N97q, K97, gv97, ov97, nv97, P97, qE97, qV97, qC97, qN97, qX97, qA97⟩ := hQ97
  have N97 := Fr.app Nh88 N97q
  have c98 := (Exa.keep c77 K75)
  have ne99 : a1 ≠ vx_97 := own_neq ov97 ne78 (Exa.lt c98)
  have c100 := (Exa.keep c79 K75)
  have ne101 : a6 ≠ vx_97 := own_neq ov97 ne80 (Exa.lt c100)
  have ne102 : a40 ≠ vx_97 := own_neq ov97 ne82 (Exa.lt c91)
  have c103 := (Arv.keep c83 K75 (ninS ne11 (ninS ne68 nin0)))
  have ne104 : w_value_a6 ≠ vx_97 := own_neq ov97 ne84 (Arv.lt c103)
  have ne105 : b40 ≠ vx_97 := own_neq ov97 ne86 (Arv.lt c94)
  have s_vx_97 : h0.size ≤ vx_97 := own_frs ov97 s_vx_75 K89.1
  have S106_b8 := Safe.keep K97 (sfS S87_b8 (sfS S87_vx_75 sf0)) R87.1 S87_b8
  have S106_b5_2_15 := Safe.keep K97 (sfS S87_b8 (sfS S87_vx_75 sf0)) R87.1 S87_b5_2_15
  have S106_vx_28 := Safe.keep K97 (sfS S87_b8 (sfS S87_vx_75 sf0)) R87.1 S87_vx_28
  have S106_vx_61 := Safe.keep K97 (sfS S87_b8 (sfS S87_vx_75 sf0)) R87.1 S87_vx_61
  have S106_vx_75 := Safe.keep K97 (sfS S87_b8 (sfS S87_vx_75 sf0)) R87.1 S87_vx_75
  have S106_vx_97 := Safe.keep K97 (sfS S87_b8 (sfS S87_vx_75 sf0)) R87.1 (own_sfx ov97 S87_vx_75)
  have R106 := CHr.trans R87 (CHr.keep K97 (sfS S87_b8 (sfS S87_vx_75 sf0)) R87.1)
  obtain ⟨Lh107, Xh107, Nh107⟩ := own_hide X97 N97
  refine own_pre (B := T97.setTop (mkF m 34 #[.val (.ref a1), .val (.long q2), .second, .val (.int p3), .val (.long q4), .second, .val (.long q5), .second, .val (.ref a6)] [(.ref b8), (.ref a6), (.long q5), (.long q4), (.int p3), (.long q2), (.ref a1)])) (fun t k => st97.trans k) ?_
  refine own_pre (B := T97.setTop (mkF m 36 #[.val (.ref a1), .val (.long q2), .second, .val (.int p3), .val (.long q4), .second, .val (.long q5), .second, .val (.ref a6)] [(.long q4), (.ref b8), (.ref a6), (.long q5), (.long q4), (.int p3), (.long q2), (.ref a1)])) (fun t k => XS.lload Xh107.here hx rfl (hb hby d1_34) rfl k) ?_
  have O108 := (Old.keep O90 K97 (allS (P := fun x => n0 ≤ x) g_b8 (allS (P := fun x => n0 ≤ x) gv75 all0)))
  have I109 := own_In I95 own_M1 (by decide) P97
  have sz110 : n0 ≤ T97.heap.size := (Nat.le_trans sz96 K97.1)
  obtain ⟨cq111, kq111, q111a, q111b, q111c⟩ := isOf hZ rfl qE97
  obtain ⟨_, _, ⟨T111, L111, k111, n111⟩, -, X111, ⟨Lc111, hQ111, l111, y111, z111⟩, st111⟩ := Xh107.virtualBack hx (y := (⟨"java/lang/StringBuilder", "append", "(J)Ljava/lang/StringBuilder;"⟩ : MethodName)) (z := (⟨"java/lang/StringBuilder", "append", "(J)Ljava/lang/StringBuilder;"⟩ : MethodName)) hown (mvT hZ (hw _ (ow 34 rfl))) (mvT hZ (hw _ (ow 35 rfl))) (notFace_of_selects (args := #[]) (mvT hZ (hw _ (ow 37 rfl)))) (mvT hZ (hw _ (ow 37 rfl))) (mvT hZ (hw _ (ow 36 rfl))) (by decide) (backOf (W := 9) (rm5 l Z a0 hw [] b8 q4 vx_97 kx_97 xx_97 nx_97 (((((0 : Int32) + (Jvm.Free.SBG.strSizeOfL q2)) + (1 : Int32)) + (Jvm.Free.SBG.strSizeOf p3)) + (1 : Int32)) cs T97.heap n0 sz110 qE97 qV97 qC97 qA97 qX97 qN97 nv97 g_b8 gv97 O108 SCS hcs TB (own_IA I109 (own_MJ _) (by decide))) hZ (hw _ (ow 38 rfl)) (hw _ (ow 16 rfl)) (by decide) (by decide)) q111a q111c (g := (mkF m 36 #[.val (.ref a1), .val (.long q2), .second, .val (.int p3), .val (.long q4), .second, .val (.long q5), .second, .val (.ref a6)] [(.long q4), (.ref b8), (.ref a6), (.long q5), (.long q4), (.int p3), (.long q2), (.ref a1)])) rfl (by rw [hml]; rfl) (Steps.refl _) (argsL := [(.long q4)]) (rest := [(.ref a6), (.long q5), (.long q4), (.int p3), (.long q2), (.ref a1)]) (lenOf pd_24 rfl) rfl (by show 2 * 0 + _ ≤ _; exact Nat.le_of_eq rfl) (hb hby d1_36) (fun _ _ => ⟨rfl, rfl, (by decide : 8 + 1 ≤ _), (by decide : 716 + 172 ≤ _)⟩)
  dsimp only [Pt.U, Pt.locs, Pt.cells, Pt.slots] at X111 l111 y111 z111 st111 hQ111
  subst l111 y111 z111
  obtain ⟨vx_111, kx_111, nx_111, xx_111, rfl, N111q, K111, gv111, ov111, nv111, P111, qE111, qV111, qC111, qN111, qX111, qA111⟩ := hQ111
  have N111 := Fr.app Nh107 N111q
  have K112 : Keep h0 T97.heap [a1] := (Keep.trans K89 K97 (allS (P := fun x => x ∈ [a1] ∨ h0.size ≤ x) (Or.inr s_b8) (allS (P := fun x => x ∈ [a1] ∨ h0.size ≤ x) (Or.inr s_vx_75) all0)))
  have c113 := (Exa.keep c98 K97)
  have ne114 : a1 ≠ vx_111 := own_neq ov111 ne99 (Exa.lt c113)
  have c115 := (Exa.keep c100 K97)
  have ne116 : a6 ≠ vx_111 := own_neq ov111 ne101 (Exa.lt c115)
  have c117 := (Exa.keep c91 K97)
  have ne118 : a40 ≠ vx_111 := own_neq ov111 ne102 (Exa.lt c117)
  have c119 := (Arv.keep c103 K97 (ninS ne11 (ninS ne84 nin0)))
  have ne120 : w_value_a6 ≠ vx_111 := own_neq ov111 ne104 (Arv.lt c119)
  have c121 := (Arv.keep c94 K97 (ninS (Ne.symm ne51) (ninS ne86 nin0)))
  have ne122 : b40 ≠ vx_111 := own_neq ov111 ne105 (Arv.lt c121)
  have s_vx_111 : h0.size ≤ vx_111 := own_frs ov111 s_vx_97 K112.1
  have S123_b8 := Safe.keep K111 (sfS S106_b8 (sfS S106_vx_97 sf0)) R106.1 S106_b8
  have S123_b5_2_15 := Safe.keep K111 (sfS S106_b8 (sfS S106_vx_97 sf0)) R106.1 S106_b5_2_15
  have S123_vx_28 := Safe.keep K111 (sfS S106_b8 (sfS S106_vx_97 sf0)) R106.1 S106_vx_28
  have S123_vx_61 := Safe.keep K111 (sfS S106_b8 (sfS S106_vx_97 sf0)) R106.1 S106_vx_61
  have S123_vx_75 := Safe.keep K111 (sfS S106_b8 (sfS S106_vx_97 sf0)) R106.1 S106_vx_75
  have S123_vx_97 := Safe.keep K111 (sfS S106_b8 (sfS S106_vx_97 sf0)) R106.1 S106_vx_97
  have S123_vx_111 := Safe.keep K111 (sfS S106_b8 (sfS S106_vx_97 sf0)) R106.1 (own_sfx ov111 S106_vx_97)
  have R123 := CHr.trans R106 (CHr.keep K111 (sfS S106_b8 (sfS S106_vx_97 sf0)) R106.1)
  obtain ⟨Lh124, Xh124, Nh124⟩ := own_hide X111 N111
  refine own_pre (B := T111.setTop (mkF m 39 #[.val (.ref a1), .val (.long q2), .second, .val (.int p3), .val (.long q4), .second, .val (.long q5), .second, .val (.ref a6)] [(.ref b8), (.ref a6), (.long q5), (.long q4), (.int p3), (.long q2), (.ref a1)])) (fun t k => st111.trans k) ?_
  have K125 : Keep h0 T111.heap [a1] := (Keep.trans K112 K111 (allS (P := fun x => x ∈ [a1] ∨ h0.size ≤ x) (Or.inr s_b8) (allS (P := fun x => x ∈ [a1] ∨ h0.size ≤ x) (Or.inr s_vx_97) all0)))
  refine own_pre (B := T111.setTop (mkF m 41 #[.val (.ref a1), .val (.long q2), .second, .val (.int p3), .val (.long q4), .second, .val (.long q5), .second, .val (.ref a6)] [(.ref a40), (.ref b8), (.ref a6), (.long q5), (.long q4), (.int p3), (.long q2), (.ref a1)])) (fun t k => ldcAgain Xh124 hx hZ hown (hw _ (ow 67 rfl)) Li40 (g := (mkF m 39 #[.val (.ref a1), .val (.long q2), .second, .val (.int p3), .val (.long q4), .second, .val (.long q5), .second, .val (.ref a6)] [(.ref b8), (.ref a6), (.long q5), (.long q4), (.int p3), (.long q2), (.ref a1)])) rfl (hb hby d1_39) t k) ?_
  have O126 := (Old.keep O108 K111 (allS (P := fun x => n0 ≤ x) g_b8 (allS (P := fun x => n0 ≤ x) gv97 all0)))
  have c127 := (Exa.keep c117 K111)
  have c128 := (Fld.keep (Fld.keep c92 K97 (ninS ne44 (ninS ne82 nin0))) K111 (ninS ne44 (ninS ne102 nin0)))
  have c129 := (Fld.keep (Fld.keep c93 K97 (ninS ne44 (ninS ne82 nin0))) K111 (ninS ne44 (ninS ne102 nin0)))
  have c130 := (Arv.keep c121 K111 (ninS (Ne.symm ne51) (ninS ne105 nin0)))
  have I131 := own_In I109 (own_MJ _) (by decide) P111
  have sz132 : n0 ≤ T111.heap.size := (Nat.le_trans sz110 K111.1)
  obtain ⟨cq133, kq133, q133a, q133b, q133c⟩ := isOf hZ rfl qE111
  obtain ⟨_, _, ⟨T133, L133, k133, n133⟩, -, X133, ⟨Lc133, hQ133, l133, y133, z133⟩, st133⟩ := Xh124.virtualBack hx (y := (⟨"java/lang/StringBuilder", "append", "(Ljava/lang/String;)Ljava/lang/StringBuilder;"⟩ : MethodName)) (z := (⟨"java/lang/StringBuilder", "append", "(Ljava/lang/String;)Ljava/lang/StringBuilder;"⟩ : MethodName)) hown (mvT hZ (hw _ (ow 68 rfl))) (mvT hZ (hw _ (ow 69 rfl))) (notFace_of_selects (args := #[]) (mvT hZ (hw _ (ow 71 rfl)))) (mvT hZ (hw _ (ow 71 rfl))) (mvT hZ (hw _ (ow 70 rfl))) (by decide) (backOf (W := 9) (rm11 l Z a0 hw [] b8 a40 vx_111 kx_111 xx_111 nx_111 ((((((0 : Int32) + (Jvm.Free.SBG.strSizeOfL q2)) + (1 : Int32)) + (Jvm.Free.SBG.strSizeOf p3)) + (1 : Int32)) + (Jvm.Free.SBG.strSizeOfL q4)) cs b40 k40 [(.int (32 : Int32))] (1 : Int32) T111.heap n0 sz132 qE111 qV111 qC111 qA111 qX111 qN111 nv111 g_b8 gv111 O126 SCS hcs c127 c128 c129 c130 ne44 ne118 (Ne.symm ne51) ne122 (own_IA I131 own_M1 (by decide))) hZ (hw _ (ow 72 rfl)) (hw _ (ow 16 rfl)) (by decide) (by decide)) q133a q133c (g := (mkF m 41 #[.val (.ref a1), .val (.long q2), .second, .val (.int p3), .val (.long q4), .second, .val (.long q5), .second, .val (.ref a6)] [(.ref a40), (.ref b8), (.ref a6), (.long q5), (.long q4), (.int p3), (.long q2), (.ref a1)])) rfl (by rw [hml]; rfl) (Steps.refl _) (argsL := [(.ref a40)]) (rest := [(.ref a6), (.long q5), (.long q4), (.int p3), (.long q2), (.ref a1)]) (lenOf pd_25 rfl) rfl (by show 2 * 0 + _ ≤ _; exact Nat.le_of_eq rfl) (hb hby d1_41) (fun _ _ => ⟨rfl, rfl, (by decide : 9 + 1 ≤ _), (by decide : 888 + 172 ≤ _)⟩)
  dsimp only [Pt.U, Pt.locs, Pt.cells, Pt.slots] at X133 l133 y133 z133 st133 hQ133
  subst l133 y133 z133
  obtain ⟨vx_133, kx_133, nx_133, xx_133, rfl, N133q, K133, gv133, ov133, nv133, P133, qE133, qV133, qC133, qN133, qX133, qA133⟩ := hQ133
  have N133 := Fr.app Nh124 N133q
  have c134 := (Exa.keep c113 K111)
  have ne135 : a1 ≠ vx_133 := own_neq ov133 ne114 (Exa.lt c134)
  have c136 := (Exa.keep c115 K111)
  have ne137 : a6 ≠ vx_133 := own_neq ov133 ne116 (Exa.lt c136)
  have ne138 : a40 ≠ vx_133 := own_neq ov133 ne118 (Exa.lt c127)
  have c139 := (Arv.keep c119 K111 (ninS ne11 (ninS ne104 nin0)))
  have ne140 : w_value_a6 ≠ vx_133 := own_neq ov133 ne120 (Arv.lt c139)
  have ne141 : b40 ≠ vx_133 := own_neq ov133 ne122 (Arv.lt c130)
  have s_vx_133 : h0.size ≤ vx_133 := own_frs ov133 s_vx_111 K125.1
  have S142_b8 := Safe.keep K133 (sfS S123_b8 (sfS S123_vx_111 sf0)) R123.1 S123_b8
  have S142_b5_2_15 := Safe.keep K133 (sfS S123_b8 (sfS S123_vx_111 sf0)) R123.1 S123_b5_2_15
  have S142_vx_28 := Safe.keep K133 (sfS S123_b8 (sfS S123_vx_111 sf0)) R123.1 S123_vx_28
  have S142_vx_61 := Safe.keep K133 (sfS S123_b8 (sfS S123_vx_111 sf0)) R123.1 S123_vx_61
  have S142_vx_75 := Safe.keep K133 (sfS S123_b8 (sfS S123_vx_111 sf0)) R123.1 S123_vx_75
  have S142_vx_97 := Safe.keep K133 (sfS S123_b8 (sfS S123_vx_111 sf0)) R123.1 S123_vx_97
  have S142_vx_111 := Safe.keep K133 (sfS S123_b8 (sfS S123_vx_111 sf0)) R123.1 S123_vx_111
  have S142_vx_133 := Safe.keep K133 (sfS S123_b8 (sfS S123_vx_111 sf0)) R123.1 (own_sfx ov133 S123_vx_111)
  have R142 := CHr.trans R123 (CHr.keep K133 (sfS S123_b8 (sfS S123_vx_111 sf0)) R123.1)
  obtain ⟨Lh143, Xh143, Nh143⟩ := own_hide X133 N133
  refine own_pre (B := T133.setTop (mkF m 44 #[.val (.ref a1), .val (.long q2), .second, .val (.int p3), .val (.long q4), .second, .val (.long q5), .second, .val (.ref a6)] [(.ref b8), (.ref a6), (.long q5), (.long q4), (.int p3), (.long q2), (.ref a1)])) (fun t k => st133.trans k) ?_
  refine own_pre (B := T133.setTop (mkF m 46 #[.val (.ref a1), .val (.long q2), .second, .val (.int p3), .val (.long q4), .second, .val (.long q5), .second, .val (.ref a6)] [(.long q5), (.ref b8), (.ref a6), (.long q5), (.long q4), (.int p3), (.long q2), (.ref a1)])) (fun t k => XS.lload Xh143.here hx rfl (hb hby d1_44) rfl k) ?_
  have O144 := (Old.keep O126 K133 (allS (P := fun x => n0 ≤ x) g_b8 (allS (P := fun x => n0 ≤ x) gv111 all0)))
  have I145 := own_In I131 own_M1 (by decide) P133
  have sz146 : n0 ≤ T133.heap.size := (Nat.le_trans sz132 K133.1)
  obtain ⟨cq147, kq147, q147a, q147b, q147c⟩ := isOf hZ rfl qE133
  obtain ⟨_, _, ⟨T147, L147, k147, n147⟩, -, X147, ⟨Lc147, hQ147, l147, y147, z147⟩, st147⟩ := Xh143.virtualBack hx (y := (⟨"java/lang/StringBuilder", "append", "(J)Ljava/lang/StringBuilder;"⟩ : MethodName)) (z := (⟨"java/lang/StringBuilder", "append", "(J)Ljava/lang/StringBuilder;"⟩ : MethodName)) hown (mvT hZ (hw _ (ow 34 rfl))) (mvT hZ (hw _ (ow 35 rfl))) (notFace_of_selects (args := #[]) (mvT hZ (hw _ (ow 37 rfl)))) (mvT hZ (hw _ (ow 37 rfl))) (mvT hZ (hw _ (ow 36 rfl))) (by decide) (backOf (W := 9) (rm5 l Z a0 hw [] b8 q5 vx_133 kx_133 xx_133 nx_133 (((((((0 : Int32) + (Jvm.Free.SBG.strSizeOfL q2)) + (1 : Int32)) + (Jvm.Free.SBG.strSizeOf p3)) + (1 : Int32)) + (Jvm.Free.SBG.strSizeOfL q4)) + (1 : Int32)) cs T133.heap n0 sz146 qE133 qV133 qC133 qA133 qX133 qN133 nv133 g_b8 gv133 O144 SCS hcs TB (own_IA I145 (own_MJ _) (by decide))) hZ (hw _ (ow 38 rfl)) (hw _ (ow 16 rfl)) (by decide) (by decide)) q147a q147c (g := (mkF m 46 #[.val (.ref a1), .val (.long q2), .second, .val (.int p3), .val (.long q4), .second, .val (.long q5), .second, .val (.ref a6)] [(.long q5), (.ref b8), (.ref a6), (.long q5), (.long q4), (.int p3), (.long q2), (.ref a1)])) rfl (by rw [hml]; rfl) (Steps.refl _) (argsL := [(.long q5)]) (rest := [(.ref a6), (.long q5), (.long q4), (.int p3), (.long q2), (.ref a1)]) (lenOf pd_24 rfl) rfl (by show 2 * 0 + _ ≤ _; exact Nat.le_of_eq rfl) (hb hby d1_46) (fun _ _ => ⟨rfl, rfl, (by decide : 10 + 1 ≤ _), (by decide : 1060 + 172 ≤ _)⟩)
  dsimp only [Pt.U, Pt.locs, Pt.cells, Pt.slots] at X147 l147 y147 z147 st147 hQ147
  subst l147 y147 z147
  obtain ⟨vx_147, kx_147, nx_147, xx_147, rfl, N147q, K147, gv147, ov147, nv147, P147, qE147, qV147, qC147, qN147, qX147, qA147⟩ := hQ147
  have N147 := Fr.app Nh143 N147q
  have K148 : Keep h0 T133.heap [a1] := (Keep.trans K125 K133 (allS (P := fun x => x ∈ [a1] ∨ h0.size ≤ x) (Or.inr s_b8) (allS (P := fun x => x ∈ [a1] ∨ h0.size ≤ x) (Or.inr s_vx_111) all0)))
  have c149 := (Exa.keep c134 K133)
  have ne150 : a1 ≠ vx_147 := own_neq ov147 ne135 (Exa.lt c149)
  have c151 := (Exa.keep c136 K133)
  have ne152 : a6 ≠ vx_147 := own_neq ov147 ne137 (Exa.lt c151)
  have c153 := (Exa.keep c127 K133)
  have ne154 : a40 ≠ vx_147 := own_neq ov147 ne138 (Exa.lt c153)
  have c155 := (Arv.keep c139 K133 (ninS ne11 (ninS ne120 nin0)))
  have ne156 : w_value_a6 ≠ vx_147 := own_neq ov147 ne140 (Arv.lt c155)
  have c157 := (Arv.keep c130 K133 (ninS (Ne.symm ne51) (ninS ne122 nin0)))
  have ne158 : b40 ≠ vx_147 := own_neq ov147 ne141 (Arv.lt c157)
  have s_vx_147 : h0.size ≤ vx_147 := own_frs ov147 s_vx_133 K148.1
  have S159_b8 := Safe.keep K147 (sfS S142_b8 (sfS S142_vx_133 sf0)) R142.1 S142_b8
  have S159_b5_2_15 := Safe.keep K147 (sfS S142_b8 (sfS S142_vx_133 sf0)) R142.1 S142_b5_2_15
  have S159_vx_28 := Safe.keep K147 (sfS S142_b8 (sfS S142_vx_133 sf0)) R142.1 S142_vx_28
  have S159_vx_61 := Safe.keep K147 (sfS S142_b8 (sfS S142_vx_133 sf0)) R142.1 S142_vx_61
  have S159_vx_75 := Safe.keep K147 (sfS S142_b8 (sfS S142_vx_133 sf0)) R142.1 S142_vx_75
  have S159_vx_97 := Safe.keep K147 (sfS S142_b8 (sfS S142_vx_133 sf0)) R142.1 S142_vx_97
  have S159_vx_111 := Safe.keep K147 (sfS S142_b8 (sfS S142_vx_133 sf0)) R142.1 S142_vx_111
  have S159_vx_133 := Safe.keep K147 (sfS S142_b8 (sfS S142_vx_133 sf0)) R142.1 S142_vx_133
  have S159_vx_147 := Safe.keep K147 (sfS S142_b8 (sfS S142_vx_133 sf0)) R142.1 (own_sfx ov147 S142_vx_133)
  have R159 := CHr.trans R142 (CHr.keep K147 (sfS S142_b8 (sfS S142_vx_133 sf0)) R142.1)
  obtain ⟨Lh160, Xh160, Nh160⟩ := own_hide X147 N147
  refine own_pre (B := T147.setTop (mkF m 49 #[.val (.ref a1), .val (.long q2), .second, .val (.int p3), .val (.long q4), .second, .val (.long q5), .second, .val (.ref a6)] [(.ref b8), (.ref a6), (.long q5), (.long q4), (.int p3), (.long q2), (.ref a1)])) (fun t k => st147.trans k) ?_
  have K161 : Keep h0 T147.heap [a1] := (Keep.trans K148 K147 (allS (P := fun x => x ∈ [a1] ∨ h0.size ≤ x) (Or.inr s_b8) (allS (P := fun x => x ∈ [a1] ∨ h0.size ≤ x) (Or.inr s_vx_133) all0)))
  refine own_pre (B := T147.setTop (mkF m 51 #[.val (.ref a1), .val (.long q2), .second, .val (.int p3), .val (.long q4), .second, .val (.long q5), .second, .val (.ref a6)] [(.ref a40), (.ref b8), (.ref a6), (.long q5), (.long q4), (.int p3), (.long q2), (.ref a1)])) (fun t k => ldcAgain Xh160 hx hZ hown (hw _ (ow 67 rfl)) Li40 (g := (mkF m 49 #[.val (.ref a1), .val (.long q2), .second, .val (.int p3), .val (.long q4), .second, .val (.long q5), .second, .val (.ref a6)] [(.ref b8), (.ref a6), (.long q5), (.long q4), (.int p3), (.long q2), (.ref a1)])) rfl (hb hby d1_49) t k) ?_
  have O162 := (Old.keep O144 K147 (allS (P := fun x => n0 ≤ x) g_b8 (allS (P := fun x => n0 ≤ x) gv133 all0)))
  have c163 := (Exa.keep c153 K147)
  have c164 := (Fld.keep (Fld.keep c128 K133 (ninS ne44 (ninS ne118 nin0))) K147 (ninS ne44 (ninS ne138 nin0)))
  have c165 := (Fld.keep (Fld.keep c129 K133 (ninS ne44 (ninS ne118 nin0))) K147 (ninS ne44 (ninS ne138 nin0)))
  have c166 := (Arv.keep c157 K147 (ninS (Ne.symm ne51) (ninS ne141 nin0)))
  have I167 := own_In I145 (own_MJ _) (by decide) P147
  have sz168 : n0 ≤ T147.heap.size := (Nat.le_trans sz146 K147.1)
  obtain ⟨cq169, kq169, q169a, q169b, q169c⟩ := isOf hZ rfl qE147
  obtain ⟨_, _, ⟨T169, L169, k169, n169⟩, -, X169, ⟨Lc169, hQ169, l169, y169, z169⟩, st169⟩ := Xh160.virtualBack hx (y := (⟨"java/lang/StringBuilder", "append", "(Ljava/lang/String;)Ljava/lang/StringBuilder;"⟩ : MethodName)) (z := (⟨"java/lang/StringBuilder", "append", "(Ljava/lang/String;)Ljava/lang/StringBuilder;"⟩ : MethodName)) hown (mvT hZ (hw _ (ow 68 rfl))) (mvT hZ (hw _ (ow 69 rfl))) (notFace_of_selects (args := #[]) (mvT hZ (hw _ (ow 71 rfl)))) (mvT hZ (hw _ (ow 71 rfl))) (mvT hZ (hw _ (ow 70 rfl))) (by decide) (backOf (W := 9) (rm11 l Z a0 hw [] b8 a40 vx_147 kx_147 xx_147 nx_147 ((((((((0 : Int32) + (Jvm.Free.SBG.strSizeOfL q2)) + (1 : Int32)) + (Jvm.Free.SBG.strSizeOf p3)) + (1 : Int32)) + (Jvm.Free.SBG.strSizeOfL q4)) + (1 : Int32)) + (Jvm.Free.SBG.strSizeOfL q5)) cs b40 k40 [(.int (32 : Int32))] (1 : Int32) T147.heap n0 sz168 qE147 qV147 qC147 qA147 qX147 qN147 nv147 g_b8 gv147 O162 SCS hcs c163 c164 c165 c166 ne44 ne154 (Ne.symm ne51) ne158 (own_IA I167 own_M1 (by decide))) hZ (hw _ (ow 72 rfl)) (hw _ (ow 16 rfl)) (by decide) (by decide)) q169a q169c (g := (mkF m 51 #[.val (.ref a1), .val (.long q2), .second, .val (.int p3), .val (.long q4), .second, .val (.long q5), .second, .val (.ref a6)] [(.ref a40), (.ref b8), (.ref a6), (.long q5), (.long q4), (.int p3), (.long q2), (.ref a1)])) rfl (by rw [hml]; rfl) (Steps.refl _) (argsL := [(.ref a40)]) (rest := [(.ref a6), (.long q5), (.long q4), (.int p3), (.long q2), (.ref a1)]) (lenOf pd_25 rfl) rfl (by show 2 * 0 + _ ≤ _; exact Nat.le_of_eq rfl) (hb hby d1_51) (fun _ _ => ⟨rfl, rfl, (by decide : 11 + 1 ≤ _), (by decide : 1232 + 172 ≤ _)⟩)
  dsimp only [Pt.U, Pt.locs, Pt.cells, Pt.slots] at X169 l169 y169 z169 st169 hQ169
  subst l169 y169 z169
  obtain ⟨vx_169, kx_169, nx_169, xx_169, rfl, N169q, K169, gv169, ov169, nv169, P169, qE169, qV169, qC169, qN169, qX169, qA169⟩ := hQ169
  have N169 := Fr.app Nh160 N169q
  have c170 := (Exa.keep c149 K147)
  have ne171 : a1 ≠ vx_169 := own_neq ov169 ne150 (Exa.lt c170)
  have c172 := (Exa.keep c151 K147)
  have ne173 : a6 ≠ vx_169 := own_neq ov169 ne152 (Exa.lt c172)
  have ne174 : a40 ≠ vx_169 := own_neq ov169 ne154 (Exa.lt c163)
  have c175 := (Arv.keep c155 K147 (ninS ne11 (ninS ne140 nin0)))
  have ne176 : w_value_a6 ≠ vx_169 := own_neq ov169 ne156 (Arv.lt c175)
  have ne177 : b40 ≠ vx_169 := own_neq ov169 ne158 (Arv.lt c166)
  have s_vx_169 : h0.size ≤ vx_169 := own_frs ov169 s_vx_147 K161.1
  have S178_b8 := Safe.keep K169 (sfS S159_b8 (sfS S159_vx_147 sf0)) R159.1 S159_b8
  have S178_b5_2_15 := Safe.keep K169 (sfS S159_b8 (sfS S159_vx_147 sf0)) R159.1 S159_b5_2_15
  have S178_vx_28 := Safe.keep K169 (sfS S159_b8 (sfS S159_vx_147 sf0)) R159.1 S159_vx_28
  have S178_vx_61 := Safe.keep K169 (sfS S159_b8 (sfS S159_vx_147 sf0)) R159.1 S159_vx_61
  have S178_vx_75 := Safe.keep K169 (sfS S159_b8 (sfS S159_vx_147 sf0)) R159.1 S159_vx_75
  have S178_vx_97 := Safe.keep K169 (sfS S159_b8 (sfS S159_vx_147 sf0)) R159.1 S159_vx_97
  have S178_vx_111 := Safe.keep K169 (sfS S159_b8 (sfS S159_vx_147 sf0)) R159.1 S159_vx_111
  have S178_vx_133 := Safe.keep K169 (sfS S159_b8 (sfS S159_vx_147 sf0)) R159.1 S159_vx_133
  have S178_vx_147 := Safe.keep K169 (sfS S159_b8 (sfS S159_vx_147 sf0)) R159.1 S159_vx_147
  have S178_vx_169 := Safe.keep K169 (sfS S159_b8 (sfS S159_vx_147 sf0)) R159.1 (own_sfx ov169 S159_vx_147)
  have R178 := CHr.trans R159 (CHr.keep K169 (sfS S159_b8 (sfS S159_vx_147 sf0)) R159.1)
  obtain ⟨Lh179, Xh179, Nh179⟩ := own_hide X169 N169
  refine own_pre (B := T169.setTop (mkF m 54 #[.val (.ref a1), .val (.long q2), .second, .val (.int p3), .val (.long q4), .second, .val (.long q5), .second, .val (.ref a6)] [(.ref b8), (.ref a6), (.long q5), (.long q4), (.int p3), (.long q2), (.ref a1)])) (fun t k => st169.trans k) ?_
  refine own_pre (B := T169.setTop (mkF m 56 #[.val (.ref a1), .val (.long q2), .second, .val (.int p3), .val (.long q4), .second, .val (.long q5), .second, .val (.ref a6)] [(.ref a6), (.ref b8), (.ref a6), (.long q5), (.long q4), (.int p3), (.long q2), (.ref a1)])) (fun t k => XS.aload Xh179.here hx rfl (hb hby d1_54) rfl rfl k) ?_
  have O180 := (Old.keep O162 K169 (allS (P := fun x => n0 ≤ x) g_b8 (allS (P := fun x => n0 ≤ x) gv147 all0)))
  have c181 := (Exa.keep c172 K169)
  have c182 := (Fld.keep (Fld.keep (Fld.keep (Fld.keep (Fld.keep (Fld.keep (Fld.keep ((Fld.keep (Fld.keep (F_coder_a6.ext E8) K15 (ninS ne9 nin0)) K28 (ninS ne9 (ninS ne18 nin0))).ext E40) K61 (ninS ne9 (ninS ne33 nin0))) K75 (ninS ne9 (ninS ne65 nin0))) K97 (ninS ne9 (ninS ne80 nin0))) K111 (ninS ne9 (ninS ne101 nin0))) K133 (ninS ne9 (ninS ne116 nin0))) K147 (ninS ne9 (ninS ne137 nin0))) K169 (ninS ne9 (ninS ne152 nin0)))
  have c183 := (Fld.keep (Fld.keep (Fld.keep (Fld.keep (Fld.keep (Fld.keep (Fld.keep ((Fld.keep (Fld.keep (F_value_a6.ext E8) K15 (ninS ne9 nin0)) K28 (ninS ne9 (ninS ne18 nin0))).ext E40) K61 (ninS ne9 (ninS ne33 nin0))) K75 (ninS ne9 (ninS ne65 nin0))) K97 (ninS ne9 (ninS ne80 nin0))) K111 (ninS ne9 (ninS ne101 nin0))) K133 (ninS ne9 (ninS ne116 nin0))) K147 (ninS ne9 (ninS ne137 nin0))) K169 (ninS ne9 (ninS ne152 nin0)))
  have c184 := (Arv.keep c175 K169 (ninS ne11 (ninS ne156 nin0)))
  have I185 := own_In I167 own_M1 (by decide) P169
  have sz186 : n0 ≤ T169.heap.size := (Nat.le_trans sz168 K169.1)
  obtain ⟨cq187, kq187, q187a, q187b, q187c⟩ := isOf hZ rfl qE169
  obtain ⟨_, _, ⟨T187, L187, k187, n187⟩, -, X187, ⟨Lc187, hQ187, l187, y187, z187⟩, st187⟩ := Xh179.virtualBack hx (y := (⟨"java/lang/StringBuilder", "append", "(Ljava/lang/String;)Ljava/lang/StringBuilder;"⟩ : MethodName)) (z := (⟨"java/lang/StringBuilder", "append", "(Ljava/lang/String;)Ljava/lang/StringBuilder;"⟩ : MethodName)) hown (mvT hZ (hw _ (ow 68 rfl))) (mvT hZ (hw _ (ow 69 rfl))) (notFace_of_selects (args := #[]) (mvT hZ (hw _ (ow 71 rfl)))) (mvT hZ (hw _ (ow 71 rfl))) (mvT hZ (hw _ (ow 70 rfl))) (by decide) (backOf (W := 9) (rm11 l Z a0 hw [] b8 a6 vx_169 kx_169 xx_169 nx_169 (((((((((0 : Int32) + (Jvm.Free.SBG.strSizeOfL q2)) + (1 : Int32)) + (Jvm.Free.SBG.strSizeOf p3)) + (1 : Int32)) + (Jvm.Free.SBG.strSizeOfL q4)) + (1 : Int32)) + (Jvm.Free.SBG.strSizeOfL q5)) + (1 : Int32)) cs w_value_a6 k_w_value_a6 ys mm T169.heap n0 sz186 qE169 qV169 qC169 qA169 qX169 qN169 nv169 g_b8 gv169 O180 SCS hcs c181 c182 c183 c184 ne9 ne173 ne11 ne176 (own_IA I185 hM (by decide))) hZ (hw _ (ow 72 rfl)) (hw _ (ow 16 rfl)) (by decide) (by decide)) q187a q187c (g := (mkF m 56 #[.val (.ref a1), .val (.long q2), .second, .val (.int p3), .val (.long q4), .second, .val (.long q5), .second, .val (.ref a6)] [(.ref a6), (.ref b8), (.ref a6), (.long q5), (.long q4), (.int p3), (.long q2), (.ref a1)])) rfl (by rw [hml]; rfl) (Steps.refl _) (argsL := [(.ref a6)]) (rest := [(.ref a6), (.long q5), (.long q4), (.int p3), (.long q2), (.ref a1)]) (lenOf pd_25 rfl) rfl (by show 2 * 0 + _ ≤ _; exact Nat.le_of_eq rfl) (hb hby d1_56) (fun _ _ => ⟨rfl, rfl, (by decide : 12 + 1 ≤ _), (by decide : 1404 + 172 ≤ _)⟩)
  dsimp only [Pt.U, Pt.locs, Pt.cells, Pt.slots] at X187 l187 y187 z187 st187 hQ187
  subst l187 y187 z187
  obtain ⟨vx_187, kx_187, nx_187, xx_187, rfl, N187q, K187, gv187, ov187, nv187, P187, qE187, qV187, qC187, qN187, qX187, qA187⟩ := hQ187
  have N187 := Fr.app Nh179 N187q
  have K188 : Keep h0 T169.heap [a1] := (Keep.trans K161 K169 (allS (P := fun x => x ∈ [a1] ∨ h0.size ≤ x) (Or.inr s_b8) (allS (P := fun x => x ∈ [a1] ∨ h0.size ≤ x) (Or.inr s_vx_147) all0)))
  have c189 := (Exa.keep c170 K169)
  have ne190 : a1 ≠ vx_187 := own_neq ov187 ne171 (Exa.lt c189)
  have ne191 : a6 ≠ vx_187 := own_neq ov187 ne173 (Exa.lt c181)
  have c192 := (Exa.keep c163 K169)
  have ne193 : a40 ≠ vx_187 := own_neq ov187 ne174 (Exa.lt c192)
  have ne194 : w_value_a6 ≠ vx_187 := own_neq ov187 ne176 (Arv.lt c184)
  have c195 := (Arv.keep c166 K169 (ninS (Ne.symm ne51) (ninS ne158 nin0)))
  have ne196 : b40 ≠ vx_187 := own_neq ov187 ne177 (Arv.lt c195)
  have s_vx_187 : h0.size ≤ vx_187 := own_frs ov187 s_vx_169 K188.1
  have S197_b8 := Safe.keep K187 (sfS S178_b8 (sfS S178_vx_169 sf0)) R178.1 S178_b8
  have S197_b5_2_15 := Safe.keep K187 (sfS S178_b8 (sfS S178_vx_169 sf0)) R178.1 S178_b5_2_15
  have S197_vx_28 := Safe.keep K187 (sfS S178_b8 (sfS S178_vx_169 sf0)) R178.1 S178_vx_28
  have S197_vx_61 := Safe.keep K187 (sfS S178_b8 (sfS S178_vx_169 sf0)) R178.1 S178_vx_61
  have S197_vx_75 := Safe.keep K187 (sfS S178_b8 (sfS S178_vx_169 sf0)) R178.1 S178_vx_75
  have S197_vx_97 := Safe.keep K187 (sfS S178_b8 (sfS S178_vx_169 sf0)) R178.1 S178_vx_97
  have S197_vx_111 := Safe.keep K187 (sfS S178_b8 (sfS S178_vx_169 sf0)) R178.1 S178_vx_111
  have S197_vx_133 := Safe.keep K187 (sfS S178_b8 (sfS S178_vx_169 sf0)) R178.1 S178_vx_133
  have S197_vx_147 := Safe.keep K187 (sfS S178_b8 (sfS S178_vx_169 sf0)) R178.1 S178_vx_147
  have S197_vx_169 := Safe.keep K187 (sfS S178_b8 (sfS S178_vx_169 sf0)) R178.1 S178_vx_169
  have S197_vx_187 := Safe.keep K187 (sfS S178_b8 (sfS S178_vx_169 sf0)) R178.1 (own_sfx ov187 S178_vx_169)
  have R197 := CHr.trans R178 (CHr.keep K187 (sfS S178_b8 (sfS S178_vx_169 sf0)) R178.1)
  obtain ⟨Lh198, Xh198, Nh198⟩ := own_hide X187 N187
  refine own_pre (B := T187.setTop (mkF m 59 #[.val (.ref a1), .val (.long q2), .second, .val (.int p3), .val (.long q4), .second, .val (.long q5), .second, .val (.ref a6)] [(.ref b8), (.ref a6), (.long q5), (.long q4), (.int p3), (.long q2), (.ref a1)])) (fun t k => st187.trans k) ?_
  have O199 := (Old.keep O180 K187 (allS (P := fun x => n0 ≤ x) g_b8 (allS (P := fun x => n0 ≤ x) gv169 all0)))
  have I200 := own_In I185 hM (by decide) P187
  have sz201 : n0 ≤ T187.heap.size := (Nat.le_trans sz186 K187.1)
  obtain ⟨cq202, kq202, q202a, q202b, q202c⟩ := isOf hZ rfl qE187
  obtain ⟨_, _, ⟨T202, L202, k202, n202⟩, -, X202, ⟨Lc202, hQ202, l202, y202, z202⟩, st202⟩ := Xh198.virtualBack hx (y := (⟨"java/lang/StringBuilder", "toString", "()Ljava/lang/String;"⟩ : MethodName)) (z := (⟨"java/lang/StringBuilder", "toString", "()Ljava/lang/String;"⟩ : MethodName)) hown (mvT hZ (hw _ (ow 152 rfl))) (mvT hZ (hw _ (ow 153 rfl))) (notFace_of_selects (args := #[]) (mvT hZ (hw _ (ow 155 rfl)))) (mvT hZ (hw _ (ow 155 rfl))) (mvT hZ (hw _ (ow 154 rfl))) (by decide) (backOf (W := 9) (rm27 l Z a0 hw [] b8 cs vx_187 kx_187 xx_187 nx_187 ((((((((((0 : Int32) + (Jvm.Free.SBG.strSizeOfL q2)) + (1 : Int32)) + (Jvm.Free.SBG.strSizeOf p3)) + (1 : Int32)) + (Jvm.Free.SBG.strSizeOfL q4)) + (1 : Int32)) + (Jvm.Free.SBG.strSizeOfL q5)) + (1 : Int32)) + mm) T187.heap n0 sz201 O199 SCS hcs qE187 qV187 qC187 qA187 qX187 qN187 (own_IL I200)) hZ (hw _ (ow 156 rfl)) (hw _ (ow 16 rfl)) (by decide) (by decide)) q202a q202c (g := (mkF m 59 #[.val (.ref a1), .val (.long q2), .second, .val (.int p3), .val (.long q4), .second, .val (.long q5), .second, .val (.ref a6)] [(.ref b8), (.ref a6), (.long q5), (.long q4), (.int p3), (.long q2), (.ref a1)])) rfl (by rw [hml]; rfl) (Steps.refl _) (argsL := []) (rest := [(.ref a6), (.long q5), (.long q4), (.int p3), (.long q2), (.ref a1)]) (lenOf pd_27 rfl) rfl (by show 2 * 0 + _ ≤ _; exact Nat.le_of_eq rfl) (hb hby d1_59) (fun _ _ => ⟨rfl, rfl, (by decide : 13 + 2 ≤ _), (by decide : 1576 + 176 ≤ _)⟩)
  dsimp only [Pt.U, Pt.locs, Pt.cells, Pt.slots] at X202 l202 y202 z202 st202 hQ202
  subst l202 y202 z202
  obtain ⟨b3_202, b_16_3_14_202, k_16_3_14_202, ub0_202, rfl, N202q, K202, q202_0, q202_1, q202_2, q202_3, q202_4, q202_5, q202_6, q202_7, q202_8⟩ := hQ202
  have N202 := Fr.app Nh198 N202q
  have K203 : Keep h0 T187.heap [a1] := (Keep.trans K188 K187 (allS (P := fun x => x ∈ [a1] ∨ h0.size ≤ x) (Or.inr s_b8) (allS (P := fun x => x ∈ [a1] ∨ h0.size ≤ x) (Or.inr s_vx_169) all0)))
  have c204 := (Exa.keep c181 K187)
  have ne205 : a6 ≠ b3_202 := Nat.ne_of_lt (Nat.lt_of_lt_of_le (Exa.lt c204) q202_1)
  have c206 := (Exa.keep c189 K187)
  have ne207 : a1 ≠ b3_202 := Nat.ne_of_lt (Nat.lt_of_lt_of_le (Exa.lt c206) q202_1)
  have ne208 : b8 ≠ b3_202 := Nat.ne_of_lt (Nat.lt_of_lt_of_le (Exa.lt qE187) q202_1)
  have c209 := (Exa.keep c192 K187)
  have ne210 : a40 ≠ b3_202 := Nat.ne_of_lt (Nat.lt_of_lt_of_le (Exa.lt c209) q202_1)
  have c211 := (Exa.keep (Exa.keep (Exa.keep (Exa.keep (Exa.keep (Exa.keep (Exa.keep (Exa.keep c48 K61) K75) K97) K111) K133) K147) K169) K187)
  have ne212 : b5_2_15 ≠ b3_202 := Nat.ne_of_lt (Nat.lt_of_lt_of_le (Exa.lt c211) q202_1)
  have c213 := (Exa.keep (Exa.keep (Exa.keep (Exa.keep (Exa.keep (Exa.keep (Exa.keep (Exa.keep c50 K61) K75) K97) K111) K133) K147) K169) K187)
  have ne214 : vx_28 ≠ b3_202 := Nat.ne_of_lt (Nat.lt_of_lt_of_le (Exa.lt c213) q202_1)
  have c215 := (Exa.keep (Exa.keep (Exa.keep (Exa.keep (Exa.keep (Exa.keep (Exa.keep qX61 K75) K97) K111) K133) K147) K169) K187)
  have ne216 : vx_61 ≠ b3_202 := Nat.ne_of_lt (Nat.lt_of_lt_of_le (Exa.lt c215) q202_1)
  have c217 := (Exa.keep (Exa.keep (Exa.keep (Exa.keep (Exa.keep (Exa.keep qX75 K97) K111) K133) K147) K169) K187)
  have ne218 : vx_75 ≠ b3_202 := Nat.ne_of_lt (Nat.lt_of_lt_of_le (Exa.lt c217) q202_1)
  have c219 := (Exa.keep (Exa.keep (Exa.keep (Exa.keep (Exa.keep qX97 K111) K133) K147) K169) K187)
  have ne220 : vx_97 ≠ b3_202 := Nat.ne_of_lt (Nat.lt_of_lt_of_le (Exa.lt c219) q202_1)
  have c221 := (Exa.keep (Exa.keep (Exa.keep (Exa.keep qX111 K133) K147) K169) K187)
  have ne222 : vx_111 ≠ b3_202 := Nat.ne_of_lt (Nat.lt_of_lt_of_le (Exa.lt c221) q202_1)
  have c223 := (Exa.keep (Exa.keep (Exa.keep qX133 K147) K169) K187)
  have ne224 : vx_133 ≠ b3_202 := Nat.ne_of_lt (Nat.lt_of_lt_of_le (Exa.lt c223) q202_1)
  have c225 := (Exa.keep (Exa.keep qX147 K169) K187)
  have ne226 : vx_147 ≠ b3_202 := Nat.ne_of_lt (Nat.lt_of_lt_of_le (Exa.lt c225) q202_1)
  have c227 := (Exa.keep qX169 K187)
  have ne228 : vx_169 ≠ b3_202 := Nat.ne_of_lt (Nat.lt_of_lt_of_le (Exa.lt c227) q202_1)
  have ne229 : vx_187 ≠ b3_202 := Nat.ne_of_lt (Nat.lt_of_lt_of_le (Exa.lt qX187) q202_1)
  have c230 := (Arv.keep c184 K187 (ninS ne11 (ninS ne176 nin0)))
  have ne231 : w_value_a6 ≠ b3_202 := Nat.ne_of_lt (Nat.lt_of_lt_of_le (Arv.lt c230) q202_1)
  have c232 := (Arv.keep c195 K187 (ninS (Ne.symm ne51) (ninS ne177 nin0)))
  have ne233 : b40 ≠ b3_202 := Nat.ne_of_lt (Nat.lt_of_lt_of_le (Arv.lt c232) q202_1)
  have s_b3_202 : h0.size ≤ b3_202 := Nat.le_trans K203.1 q202_1
  have ne234 : a6 ≠ b_16_3_14_202 := Nat.ne_of_lt (Nat.lt_of_lt_of_le (Exa.lt c204) q202_6)
  have ne235 : a1 ≠ b_16_3_14_202 := Nat.ne_of_lt (Nat.lt_of_lt_of_le (Exa.lt c206) q202_6)
  have ne236 : b8 ≠ b_16_3_14_202 := Nat.ne_of_lt (Nat.lt_of_lt_of_le (Exa.lt qE187) q202_6)
  have ne237 : a40 ≠ b_16_3_14_202 := Nat.ne_of_lt (Nat.lt_of_lt_of_le (Exa.lt c209) q202_6)
  have ne238 : b5_2_15 ≠ b_16_3_14_202 := Nat.ne_of_lt (Nat.lt_of_lt_of_le (Exa.lt c211) q202_6)
  have ne239 : vx_28 ≠ b_16_3_14_202 := Nat.ne_of_lt (Nat.lt_of_lt_of_le (Exa.lt c213) q202_6)
  have ne240 : vx_61 ≠ b_16_3_14_202 := Nat.ne_of_lt (Nat.lt_of_lt_of_le (Exa.lt c215) q202_6)
  have ne241 : vx_75 ≠ b_16_3_14_202 := Nat.ne_of_lt (Nat.lt_of_lt_of_le (Exa.lt c217) q202_6)
  have ne242 : vx_97 ≠ b_16_3_14_202 := Nat.ne_of_lt (Nat.lt_of_lt_of_le (Exa.lt c219) q202_6)
  have ne243 : vx_111 ≠ b_16_3_14_202 := Nat.ne_of_lt (Nat.lt_of_lt_of_le (Exa.lt c221) q202_6)
  have ne244 : vx_133 ≠ b_16_3_14_202 := Nat.ne_of_lt (Nat.lt_of_lt_of_le (Exa.lt c223) q202_6)
  have ne245 : vx_147 ≠ b_16_3_14_202 := Nat.ne_of_lt (Nat.lt_of_lt_of_le (Exa.lt c225) q202_6)
  have ne246 : vx_169 ≠ b_16_3_14_202 := Nat.ne_of_lt (Nat.lt_of_lt_of_le (Exa.lt c227) q202_6)
  have ne247 : vx_187 ≠ b_16_3_14_202 := Nat.ne_of_lt (Nat.lt_of_lt_of_le (Exa.lt qX187) q202_6)
  have ne248 : w_value_a6 ≠ b_16_3_14_202 := Nat.ne_of_lt (Nat.lt_of_lt_of_le (Arv.lt c230) q202_6)
  have ne249 : b40 ≠ b_16_3_14_202 := Nat.ne_of_lt (Nat.lt_of_lt_of_le (Arv.lt c232) q202_6)
  have s_b_16_3_14_202 : h0.size ≤ b_16_3_14_202 := Nat.le_trans K203.1 q202_6
  have S250_b8 := Safe.keep K202 sf0 R197.1 S197_b8
  have S250_b5_2_15 := Safe.keep K202 sf0 R197.1 S197_b5_2_15
  have S250_vx_28 := Safe.keep K202 sf0 R197.1 S197_vx_28
  have S250_vx_61 := Safe.keep K202 sf0 R197.1 S197_vx_61
  have S250_vx_75 := Safe.keep K202 sf0 R197.1 S197_vx_75
  have S250_vx_97 := Safe.keep K202 sf0 R197.1 S197_vx_97
  have S250_vx_111 := Safe.keep K202 sf0 R197.1 S197_vx_111
  have S250_vx_133 := Safe.keep K202 sf0 R197.1 S197_vx_133
  have S250_vx_147 := Safe.keep K202 sf0 R197.1 S197_vx_147
  have S250_vx_169 := Safe.keep K202 sf0 R197.1 S197_vx_169
  have S250_vx_187 := Safe.keep K202 sf0 R197.1 S197_vx_187
  have S250_b3_202 := Safe.keep K202 sf0 R197.1 (Safe.new q202_1)
  have S250_b_16_3_14_202 := Safe.keep K202 sf0 R197.1 (Safe.new q202_6)
  have R250 := CHr.trans R197 (CHr.keep K202 sf0 R197.1)
  obtain ⟨Lh251, Xh251, Nh251⟩ := own_hide X202 N202
  refine own_pre (B := T202.setTop (mkF m 62 #[.val (.ref a1), .val (.long q2), .second, .val (.int p3), .val (.long q4), .second, .val (.long q5), .second, .val (.ref a6)] [(.ref b3_202), (.ref a6), (.long q5), (.long q4), (.int p3), (.long q2), (.ref a1)])) (fun t k => st202.trans k) ?_
  have c252 := (Exa.keep c206 K202)
  have c253 := (Fld.keep (Fld.keep (Fld.keep (Fld.keep (Fld.keep (Fld.keep (Fld.keep (Fld.keep (Fld.keep ((Fld.keep (Fld.keep (F_term_a1.ext E8) K15 (ninS ne10 nin0)) K28 (ninS ne10 (ninS ne20 nin0))).ext E40) K61 (ninS ne10 (ninS ne31 nin0))) K75 (ninS ne10 (ninS ne63 nin0))) K97 (ninS ne10 (ninS ne78 nin0))) K111 (ninS ne10 (ninS ne99 nin0))) K133 (ninS ne10 (ninS ne114 nin0))) K147 (ninS ne10 (ninS ne135 nin0))) K169 (ninS ne10 (ninS ne150 nin0))) K187 (ninS ne10 (ninS ne171 nin0))) K202 nin0)
  have c254 := (Fld.keep (Fld.keep (Fld.keep (Fld.keep (Fld.keep (Fld.keep (Fld.keep (Fld.keep (Fld.keep ((Fld.keep (Fld.keep (F_origin_a1.ext E8) K15 (ninS ne10 nin0)) K28 (ninS ne10 (ninS ne20 nin0))).ext E40) K61 (ninS ne10 (ninS ne31 nin0))) K75 (ninS ne10 (ninS ne63 nin0))) K97 (ninS ne10 (ninS ne78 nin0))) K111 (ninS ne10 (ninS ne99 nin0))) K133 (ninS ne10 (ninS ne114 nin0))) K147 (ninS ne10 (ninS ne135 nin0))) K169 (ninS ne10 (ninS ne150 nin0))) K187 (ninS ne10 (ninS ne171 nin0))) K202 nin0)
  have c255 := (Fld.keep (Fld.keep (Fld.keep (Fld.keep (Fld.keep (Fld.keep (Fld.keep (Fld.keep (Fld.keep ((Fld.keep (Fld.keep (F_boot_a1.ext E8) K15 (ninS ne10 nin0)) K28 (ninS ne10 (ninS ne20 nin0))).ext E40) K61 (ninS ne10 (ninS ne31 nin0))) K75 (ninS ne10 (ninS ne63 nin0))) K97 (ninS ne10 (ninS ne78 nin0))) K111 (ninS ne10 (ninS ne99 nin0))) K133 (ninS ne10 (ninS ne114 nin0))) K147 (ninS ne10 (ninS ne135 nin0))) K169 (ninS ne10 (ninS ne150 nin0))) K187 (ninS ne10 (ninS ne171 nin0))) K202 nin0)
  have c256 := (Fld.keep (Fld.keep (Fld.keep (Fld.keep (Fld.keep (Fld.keep (Fld.keep (Fld.keep (Fld.keep ((Fld.keep (Fld.keep (F_sequence_a1.ext E8) K15 (ninS ne10 nin0)) K28 (ninS ne10 (ninS ne20 nin0))).ext E40) K61 (ninS ne10 (ninS ne31 nin0))) K75 (ninS ne10 (ninS ne63 nin0))) K97 (ninS ne10 (ninS ne78 nin0))) K111 (ninS ne10 (ninS ne99 nin0))) K133 (ninS ne10 (ninS ne114 nin0))) K147 (ninS ne10 (ninS ne135 nin0))) K169 (ninS ne10 (ninS ne150 nin0))) K187 (ninS ne10 (ninS ne171 nin0))) K202 nin0)
  have c257 := (Fld.keep (Fld.keep (Fld.keep (Fld.keep (Fld.keep (Fld.keep (Fld.keep (Fld.keep (Fld.keep ((Fld.keep (Fld.keep (F_command_a1.ext E8) K15 (ninS ne10 nin0)) K28 (ninS ne10 (ninS ne20 nin0))).ext E40) K61 (ninS ne10 (ninS ne31 nin0))) K75 (ninS ne10 (ninS ne63 nin0))) K97 (ninS ne10 (ninS ne78 nin0))) K111 (ninS ne10 (ninS ne99 nin0))) K133 (ninS ne10 (ninS ne114 nin0))) K147 (ninS ne10 (ninS ne135 nin0))) K169 (ninS ne10 (ninS ne150 nin0))) K187 (ninS ne10 (ninS ne171 nin0))) K202 nin0)
  have c258 := (Fld.keep (Fld.keep (Fld.keep (Fld.keep (Fld.keep (Fld.keep (Fld.keep (Fld.keep (Fld.keep ((Fld.keep (Fld.keep (F_text_a1.ext E8) K15 (ninS ne10 nin0)) K28 (ninS ne10 (ninS ne20 nin0))).ext E40) K61 (ninS ne10 (ninS ne31 nin0))) K75 (ninS ne10 (ninS ne63 nin0))) K97 (ninS ne10 (ninS ne78 nin0))) K111 (ninS ne10 (ninS ne99 nin0))) K133 (ninS ne10 (ninS ne114 nin0))) K147 (ninS ne10 (ninS ne135 nin0))) K169 (ninS ne10 (ninS ne150 nin0))) K187 (ninS ne10 (ninS ne171 nin0))) K202 nin0)
  have sz259 : n0 ≤ T202.heap.size := (Nat.le_trans sz201 K202.1)
  obtain ⟨_, _, ⟨T260, L260, k260, n260⟩, -, X260, ⟨Lc260, hQ260, l260, y260, z260⟩, st260⟩ := Xh251.specialBack hx (y := (⟨"com/example/internode_coordination/internodecoordination/member/LogEntry", "<init>", "(JIJJLjava/lang/String;Ljava/lang/String;)V"⟩ : MethodName)) rfl hown (mvT hZ (hw _ (ow 189 rfl))) (mvT hZ (hw _ (ow 190 rfl))) (mvT hZ (hw _ (ow 191 rfl))) (by decide) (backOf (W := 0) (rm36 l Z a0 hw [] a1 q2 p3 q4 q5 a6 b3_202 u_term_a1 u_origin_a1 u_boot_a1 u_sequence_a1 u_command_a1 u_text_a1 T202.heap n0 sz259 c252 c253 g_a1 c254 c255 c256 c257 c258) hZ (hw _ (ow 191 rfl)) (hw _ (ow 10 rfl)) (by decide) (by decide)) (g := (mkF m 62 #[.val (.ref a1), .val (.long q2), .second, .val (.int p3), .val (.long q4), .second, .val (.long q5), .second, .val (.ref a6)] [(.ref b3_202), (.ref a6), (.long q5), (.long q4), (.int p3), (.long q2), (.ref a1)])) rfl (by rw [hml]; rfl) (Steps.refl _) (a := a1) (argsL := [(.long q2), (.int p3), (.long q4), (.long q5), (.ref a6), (.ref b3_202)]) (rest := []) (lenOf pd_28 rfl) rfl (by show 2 * 0 + _ ≤ _; exact Nat.le_of_eq rfl) (hb hby d1_62) (fun _ _ => ⟨rfl, rfl, (by decide : 15 + 0 ≤ _), (by decide : 1752 + 0 ≤ _)⟩)
  dsimp only [Pt.U, Pt.locs, Pt.cells, Pt.slots] at X260 l260 y260 z260 st260 hQ260
  subst l260 y260 z260
  obtain ⟨rfl, N260q, K260, q260_0, q260_1, q260_2, q260_3, q260_4, q260_5, q260_6⟩ := hQ260
  have N260 := Fr.app Nh251 N260q
  have K261 : Keep h0 T202.heap [a1] := (Keep.trans K203 K202 all0)
  have S262_b8 := Safe.keep K260 (sfS (Safe.exa hZ.alike c252 (by decide) (by decide)) sf0) R250.1 S250_b8
  have S262_b5_2_15 := Safe.keep K260 (sfS (Safe.exa hZ.alike c252 (by decide) (by decide)) sf0) R250.1 S250_b5_2_15
  have S262_vx_28 := Safe.keep K260 (sfS (Safe.exa hZ.alike c252 (by decide) (by decide)) sf0) R250.1 S250_vx_28
  have S262_vx_61 := Safe.keep K260 (sfS (Safe.exa hZ.alike c252 (by decide) (by decide)) sf0) R250.1 S250_vx_61
  have S262_vx_75 := Safe.keep K260 (sfS (Safe.exa hZ.alike c252 (by decide) (by decide)) sf0) R250.1 S250_vx_75
  have S262_vx_97 := Safe.keep K260 (sfS (Safe.exa hZ.alike c252 (by decide) (by decide)) sf0) R250.1 S250_vx_97
  have S262_vx_111 := Safe.keep K260 (sfS (Safe.exa hZ.alike c252 (by decide) (by decide)) sf0) R250.1 S250_vx_111
  have S262_vx_133 := Safe.keep K260 (sfS (Safe.exa hZ.alike c252 (by decide) (by decide)) sf0) R250.1 S250_vx_133
  have S262_vx_147 := Safe.keep K260 (sfS (Safe.exa hZ.alike c252 (by decide) (by decide)) sf0) R250.1 S250_vx_147
  have S262_vx_169 := Safe.keep K260 (sfS (Safe.exa hZ.alike c252 (by decide) (by decide)) sf0) R250.1 S250_vx_169
  have S262_vx_187 := Safe.keep K260 (sfS (Safe.exa hZ.alike c252 (by decide) (by decide)) sf0) R250.1 S250_vx_187
  have S262_b3_202 := Safe.keep K260 (sfS (Safe.exa hZ.alike c252 (by decide) (by decide)) sf0) R250.1 S250_b3_202
  have S262_b_16_3_14_202 := Safe.keep K260 (sfS (Safe.exa hZ.alike c252 (by decide) (by decide)) sf0) R250.1 S250_b_16_3_14_202
  have R262 := CHr.trans R250 (CHr.keep K260 (sfS (Safe.exa hZ.alike c252 (by decide) (by decide)) sf0) R250.1)
  obtain ⟨Lh263, Xh263, Nh263⟩ := own_hide X260 N260
  refine own_pre (B := T260.setTop (mkF m 65 #[.val (.ref a1), .val (.long q2), .second, .val (.int p3), .val (.long q4), .second, .val (.long q5), .second, .val (.ref a6)] [])) (fun t k => st260.trans k) ?_
  have K265 : Keep h0 T260.heap [a1] := (Keep.trans K261 K260 (allS (P := fun x => x ∈ [a1] ∨ h0.size ≤ x) (Or.inl (List.mem_of_getElem? (i := 0) rfl)) all0))
  have Cr264 := CHr.trans R262 (CHv.at Xh263 hZ (own_EW hw) R262.1)
  obtain ⟨fsr264, hrr264, hrunr264, hendedr264, hWr264⟩ := Xh263.leaveW hS40 (Nat.le_trans (Nat.le_trans (Nat.le_trans (Nat.le_trans (Nat.le_trans (Nat.le_trans (Nat.le_trans (Nat.le_trans (Nat.le_trans (Nat.le_trans hk40 K61.1) K75.1) K97.1) K111.1) K133.1) K147.1) K169.1) K187.1) K202.1) K260.1) (v := none) (fun _ => rfl)
  refine ⟨_, _, (Xh263.returnOut hx Bd.returns (hb hby d1_65) hrr264), hrunr264, hendedr264, _, _, rfl, ?_, ?_, hWr264.1, hWr264.2.1, hWr264.2.2.1, hWr264.2.2.2.mono (by decide) (by decide)⟩
  · show Q1 Z a1 q2 p3 q4 q5 a6 cs w_value_a6 k_w_value_a6 ys mm u_term_a1 u_origin_a1 u_boot_a1 u_sequence_a1 u_command_a1 u_text_a1 h0 n0 _ T260.heap _
    exact ⟨rfl, Nh263, K265, q260_0, q260_2⟩
  · show CHr Z _ s.vm s.heap T260.vm T260.heap
    rw [hh]
    exact Cr264
theorem own_M4 : own_M 4 (4 : Int32) := by unfold own_M; decide
theorem own_M2 : own_M 4 (2 : Int32) := by unfold own_M; decide
theorem pd_29 : parseMethodDescriptor "(JIJJLjava/lang/String;)V" = some ⟨[.long, .int, .long, .long, (.object "java/lang/String")], none⟩ := by decide +kernel
theorem d37_0 : decode prog_37_method_4_code 0 = .ok (.new 24, 3) := by decide +kernel
theorem d37_3 : decode prog_37_method_4_code 3 = .ok (.dup, 1) := by decide +kernel
theorem d37_4 : decode prog_37_method_4_code 4 = .ok (.lload_n 0, 1) := by decide +kernel
theorem d37_5 : decode prog_37_method_4_code 5 = .ok (.iconst 0, 1) := by decide +kernel
theorem d37_6 : decode prog_37_method_4_code 6 = .ok (.lconst 0, 1) := by decide +kernel
theorem d37_7 : decode prog_37_method_4_code 7 = .ok (.lconst 0, 1) := by decide +kernel
theorem d37_8 : decode prog_37_method_4_code 8 = .ok (.ldc 65, 2) := by decide +kernel
theorem d37_10 : decode prog_37_method_4_code 10 = .ok (.invokespecial 67, 3) := by decide +kernel
theorem d37_13 : decode prog_37_method_4_code 13 = .ok (.areturn, 1) := by decide +kernel
theorem pn_37 : plainName "com/example/internode_coordination/internodecoordination/member/LogEntry" = true := by first | (simp [plainName, overriddenIn]; done) | decide +kernel
theorem ef_37 (m : MethodId) (x0 : Int64) : entryFrame m #[(.long x0)] 2 = mkF m 0 #[.val (.long x0), .second] [] := by first | (simp [entryFrame, mkF, argsToLocals, Value.category]; done) | rfl
def Q37 (Z : State) (q1 : Int64) (cs : Int32) (h0 : Heap) (n0 : Nat) (v : Option Value) (h : Heap) (L : List Loc) : Prop := ∃ (b : Addr), v = some (.ref b) ∧ Fr n0 L ∧ Keep h0 h [] ∧ n0 ≤ b ∧ h0.size ≤ b ∧ Exa Z h b "com/example/internode_coordination/internodecoordination/member/LogEntry" ∧ Fld Z h b "com/example/internode_coordination/internodecoordination/member/LogEntry" "origin" "I" (.int (0 : Int32))
set_option maxRecDepth 65536 in
set_option maxHeartbeats 40000000 in
theorem rm37 (l : Launch) (Z : State) (a0 : Array Value) (hw : ∀ d ∈ tables_1, d.before a0 Z = true) (ws : List Jvm.Cond) (q1 : Int64) (cs : Int32) (h0 : Heap) (n0 : Nat) (Z0 : n0 ≤ h0.size) (O0 : Old Z n0 h0) (SCS : Sta Z Z.heap "java/lang/String" "COMPACT_STRINGS" "Z" (.int cs)) (hcs : ¬ cs = (0 : Int32)) (TB : own_T Z) :
    MetFree l (⟨"com/example/internode_coordination/internodecoordination/member/LogEntry", "noOperation", "(J)Lcom/example/internode_coordination/internodecoordination/member/LogEntry;"⟩ : MethodName) (head1 (Jvm.Cond.code (⟨"com/example/internode_coordination/internodecoordination/member/LogEntry", "noOperation", "(J)Lcom/example/internode_coordination/internodecoordination/member/LogEntry;"⟩ : MethodName) prog_37_method_4_code 2 (some (.object "com/example/internode_coordination/internodecoordination/member/LogEntry")) :: ws) ({ frames := 7, cells := 18, slots := 1778, locals := 162 } : Room)) (fun a U => a = #[(.long q1)] ∧ Z.Warmed39 U.vm ∧ U.heap = h0 ∧ CHv Z consts_1 U.vm h0) (fun _ _ _ _ _ => True) (fun _ U o U' => ∃ v L, o = .returned v ∧ Q37 Z q1 cs h0 n0 v U'.heap L ∧ CHr Z consts_1 U.vm U.heap U'.vm U'.heap ∧ ReturnedEndW U o U' L ({ frames := 7, cells := 18, slots := 1778, locals := 162 } : Room).cells ({ frames := 7, cells := 18, slots := 1778, locals := 162 } : Room).slots) := by
  refine MetFree.of_bodySF (plainFor_of_name pn_37) hisR ?_
  intro p e s m args below meth c s₁ Bd hml0 hP hK
  obtain ⟨rfl, hZ, hh, hCH⟩ := hP
  have hx := Bd.exec
  have hby := Bd.bytes
  have hml : c.maxLocals = 2 := hml0
  have hown : s.vm.findClass "com/example/internode_coordination/internodecoordination/member/LogEntry" = some m.cls := findClass_of_methodNamed Bd.named
  have hnm := (name_of_methodNamed Bd.named Bd.method).1
  have X0 : Stand p l e ({ frames := 7, cells := 18, slots := 1778, locals := 162 } : Room) s m #[(.long q1)] below meth c s₁ [] 0 0 := Stand.of_body Bd
  have e0 : s₁.heap = h0 := by rw [← hh, Bd.state]; rfl
  have N0 := Fr.nil n0
  apply own_in
  refine own_pre (B := s₁.setTop (mkF m 0 #[.val (.long q1), .second] [])) (fun t k => castTop (ef_37 m q1) k) ?_
  have hZ : Z.Warmed39 (s.setVm s.vm).vm := hZ
  have hown : (s.setVm s.vm).vm.findClass "com/example/internode_coordination/internodecoordination/member/LogEntry" = some m.cls := hown
  have X0 : Stand p l e ({ frames := 7, cells := 18, slots := 1778, locals := 162 } : Room) (s.setVm s.vm) m #[(.long q1)] below meth c s₁ [] 0 0 := X0
  have hS0 := own_since s h0.size
  have hk0 : h0.size ≤ h0.size := Nat.le_refl _
  have R0 := CHr.refl hCH
  have K2 : Keep h0 h0 [] := (Keep.refl h0 [])
  obtain ⟨T3, h3, X3, e3, E3, A3, D3, -, st3⟩ := newO X0 hx hZ hown (hw _ (ow 208 rfl)) (hw _ (ow 9 rfl)) (hw _ (ow 10 rfl)) e0 (g := (mkF m 0 #[.val (.long q1), .second] [])) rfl (hb hby d37_0) (by decide) (by decide)
  obtain ⟨b3, g3⟩ : ∃ z, z = h0.size := ⟨_, rfl⟩
  rw [← g3] at A3 D3 st3
  have g_b3 : n0 ≤ b3 := Nat.le_trans Z0 (Nat.le_of_eq g3.symm)
  have s_b3 : h0.size ≤ b3 := Nat.le_trans K2.1 (Nat.le_of_eq g3.symm)
  have S4_b3 := Safe.ext E3 R0.1 (Safe.new (Nat.le_of_eq g3.symm))
  have R4 := CHr.trans R0 (CHr.ext E3 R0.1)
  have F_term_b3 : Fld Z h3 b3 "com/example/internode_coordination/internodecoordination/member/LogEntry" "term" "J" (.long (0 : Int64)) := D3 (Or.inr (hw _ (ow 194 rfl))) (ty := .long) (by decide)
  have F_origin_b3 : Fld Z h3 b3 "com/example/internode_coordination/internodecoordination/member/LogEntry" "origin" "I" (.int (0 : Int32)) := D3 (Or.inr (hw _ (ow 196 rfl))) (ty := .int) (by decide)
  have F_boot_b3 : Fld Z h3 b3 "com/example/internode_coordination/internodecoordination/member/LogEntry" "boot" "J" (.long (0 : Int64)) := D3 (Or.inr (hw _ (ow 198 rfl))) (ty := .long) (by decide)
  have F_sequence_b3 : Fld Z h3 b3 "com/example/internode_coordination/internodecoordination/member/LogEntry" "sequence" "J" (.long (0 : Int64)) := D3 (Or.inr (hw _ (ow 200 rfl))) (ty := .long) (by decide)
  have F_command_b3 : Fld Z h3 b3 "com/example/internode_coordination/internodecoordination/member/LogEntry" "command" "Ljava/lang/String;" .null := D3 (Or.inr (hw _ (ow 202 rfl))) (ty := (.object "java/lang/String")) (by decide)
  have F_text_b3 : Fld Z h3 b3 "com/example/internode_coordination/internodecoordination/member/LogEntry" "text" "Ljava/lang/String;" .null := D3 (Or.inr (hw _ (ow 204 rfl))) (ty := (.object "java/lang/String")) (by decide)
  refine own_pre (B := T3.setTop (mkF m 3 #[.val (.long q1), .second] [(.ref b3)])) (fun t k => st3 t k) ?_
  refine own_pre (B := T3.setTop (mkF m 4 #[.val (.long q1), .second] [(.ref b3), (.ref b3)])) (fun t k => XS.dup X3.here hx rfl (hb hby d37_3) rfl rfl k) ?_
  refine own_pre (B := T3.setTop (mkF m 5 #[.val (.long q1), .second] [(.long q1), (.ref b3), (.ref b3)])) (fun t k => XS.lloadN X3.here hx rfl (hb hby d37_4) rfl k) ?_
  refine own_pre (B := T3.setTop (mkF m 6 #[.val (.long q1), .second] [(.int (0 : Int32)), (.long q1), (.ref b3), (.ref b3)])) (fun t k => XS.iconst X3.here hx rfl (hb hby d37_5) k) ?_
  refine own_pre (B := T3.setTop (mkF m 7 #[.val (.long q1), .second] [(.long (0 : Int64)), (.int (0 : Int32)), (.long q1), (.ref b3), (.ref b3)])) (fun t k => XS.lconst X3.here hx rfl (hb hby d37_6) k) ?_
  refine own_pre (B := T3.setTop (mkF m 8 #[.val (.long q1), .second] [(.long (0 : Int64)), (.long (0 : Int64)), (.int (0 : Int32)), (.long q1), (.ref b3), (.ref b3)])) (fun t k => XS.lconst X3.here hx rfl (hb hby d37_7) k) ?_
  have K5 : Keep h0 h3 [] := (Keep.ext K2 E3)
  obtain ⟨a6, T6, h6, kk6, b6, k6, X6, e6, E6, hS6, hk6, hZ, hown, qE6, qC6, qV6, qA6, la6, lb6, Rl6, Li6, ns6, st6⟩ := ldcCH X3 hx hZ hown (hw _ (ow 209 rfl)) (own_wS hw) e3 hS0 (Nat.le_trans hk0 E3.1) (own_EW hw) (by decide) R4.1 (vs := [(.int (78 : Int32)), (.int (79 : Int32)), (.int (79 : Int32)), (.int (80 : Int32))]) (z := (4 : Int32)) ⟨by decide, by decide⟩ (by decide) (by decide) (g := (mkF m 8 #[.val (.long q1), .second] [(.long (0 : Int64)), (.long (0 : Int64)), (.int (0 : Int32)), (.long q1), (.ref b3), (.ref b3)])) rfl (hb hby d37_8) (n := 16) (by decide) (by decide) (by decide) (by decide)
  have S6_b3 := CHr.safe Rl6 (Exa.lt A3) S4_b3
  have R6 := CHr.trans R4 Rl6
  have c8 := (A3.ext E6)
  have ne7 : a6 ≠ b3 := Exa.ne qE6 c8 (by decide)
  have ne9 : b3 ≠ b6 := Exa.neArv c8 qA6 (hw _ (ow 9 rfl))
  have ne10 : b3 ≠ b6 := (ns6 _ S6_b3).2
  refine own_pre (B := T6.setTop (mkF m 10 #[.val (.long q1), .second] [(.ref a6), (.long (0 : Int64)), (.long (0 : Int64)), (.int (0 : Int32)), (.long q1), (.ref b3), (.ref b3)])) (fun t k => st6 t k) ?_
  have O11 := (Old.ext (Old.ext O0 E3) E6)
  have c12 := (F_term_b3.ext E6)
  have c13 := (F_origin_b3.ext E6)
  have c14 := (F_boot_b3.ext E6)
  have c15 := (F_sequence_b3.ext E6)
  have c16 := (F_command_b3.ext E6)
  have c17 := (F_text_b3.ext E6)
  have sz18 : n0 ≤ h6.size := (Nat.le_trans (Nat.le_trans Z0 E3.1) E6.1)
  obtain ⟨_, _, ⟨T19, L19, k19, n19⟩, -, X19, hS19, hgr19, ⟨Lc19, hQ19, l19, y19, z19, hR19⟩, st19⟩ := X6.specialBackS hx (y := (⟨"com/example/internode_coordination/internodecoordination/member/LogEntry", "<init>", "(JIJJLjava/lang/String;)V"⟩ : MethodName)) rfl hown (mvT hZ (hw _ (ow 210 rfl))) (mvT hZ (hw _ (ow 12 rfl))) (mvT hZ (hw _ (ow 13 rfl))) (by decide) (backOfSH (W := 1) (rm1 l Z a0 hw [] b3 q1 (0 : Int32) (0 : Int64) (0 : Int64) a6 cs b6 k6 [(.int (78 : Int32)), (.int (79 : Int32)), (.int (79 : Int32)), (.int (80 : Int32))] (4 : Int32) (.long (0 : Int64)) (.int (0 : Int32)) (.long (0 : Int64)) (.long (0 : Int64)) .null .null h6 n0 sz18 c8 O11 SCS hcs qE6 qC6 qV6 qA6 TB own_M4 c12 c13 c14 c15 c16 c17 g_b3) hZ (hw _ (ow 13 rfl)) (hw _ (ow 10 rfl)) (by decide) (by decide) (own_EW hw) R6.1) (g := (mkF m 10 #[.val (.long q1), .second] [(.ref a6), (.long (0 : Int64)), (.long (0 : Int64)), (.int (0 : Int32)), (.long q1), (.ref b3), (.ref b3)])) rfl (by rw [hml]; rfl) (Steps.refl _) (a := b3) (argsL := [(.long q1), (.int (0 : Int32)), (.long (0 : Int64)), (.long (0 : Int64)), (.ref a6)]) (rest := [(.ref b3)]) (lenOf pd_29 rfl) rfl (by show 2 * 0 + _ ≤ _; exact Nat.le_of_eq rfl) (hb hby d37_10) (fun _ _ => ⟨rfl, e6, (by decide : 3 + 15 ≤ _), (by decide : 26 + 1752 ≤ _)⟩)
  dsimp only [Pt.U, Pt.locs, Pt.cells, Pt.slots] at X19 l19 y19 z19 st19 hQ19 hS19 hgr19 hR19
  have hS19f := foldS hS6 (by rw [e6]; exact hk6) hS19 hgr19
  have hZ : Z.Warmed39 (s.setVm T19.vm).vm := State.Warmed39.trans (t := s.setVm _) hZ hS19.1
  have hown : (s.setVm T19.vm).vm.findClass "com/example/internode_coordination/internodecoordination/member/LogEntry" = some m.cls := by rw [show (s.setVm T19.vm).vm = T19.vm from rfl, hS19.1.alike.findClass]; exact hown
  subst l19 y19 z19
  obtain ⟨rfl, N19q, K19, qE19, qF19⟩ := hQ19
  have N19 := Fr.app N0 N19q
  have K20 : Keep h0 h6 [] := (Keep.ext K5 E6)
  have S21_b3 := CHr.safe hR19 (Exa.lt c8) S6_b3
  have R21 := CHr.trans R6 hR19
  have X19 := own_re X19
  obtain ⟨Lh22, Xh22, Nh22⟩ := own_hide X19 N19
  refine own_pre (B := T19.setTop (mkF m 13 #[.val (.long q1), .second] [(.ref b3)])) (fun t k => st19.trans k) ?_
  have K24 : Keep h0 T19.heap [] := (Keep.trans K20 K19 (allS (P := fun x => x ∈ [] ∨ h0.size ≤ x) (Or.inr s_b3) all0))
  have Cr23 := CHr.trans R21 (CHv.at Xh22 hZ (own_EW hw) R21.1)
  obtain ⟨fsr23, hrr23, hrunr23, hendedr23, hWr23⟩ := Xh22.leaveW hS19f (Nat.le_refl _) (v := some (.ref b3)) (fun h => by rw [Bd.returns] at h; cases h)
  refine ⟨_, _, (retOut Xh22 hx (i := .areturn) Bd.returns rfl (Or.inr (Or.inr (Or.inr (Or.inr ⟨rfl, rfl, rfl⟩)))) (hb hby d37_13) hrr23), hrunr23, hendedr23, _, _, rfl, ?_, ?_, hWr23.1, hWr23.2.1, hWr23.2.2.1, hWr23.2.2.2.mono (by decide) (by decide)⟩
  · show Q37 Z q1 cs h0 n0 _ T19.heap _
    exact ⟨b3, rfl, Nh22, K24, g_b3, s_b3, qE19, qF19⟩
  · show CHr Z _ s.vm s.heap T19.vm T19.heap
    rw [hh]
    exact Cr23
theorem own_ch (y : Int32) : ¬ (255 : Int32) < nar .char ((y &&& (255 : Int32)).toUInt32.toUInt16.toUInt32.toInt32) := by
  have m := c_mask y 255 8 (by decide) (by decide)
  have c1 := c_i2c (y &&& 255)
  have c2 := c_i2c (y &&& 255).toUInt32.toUInt16.toUInt32.toInt32
  have e : (255 : Int32).toInt = 255 := by decide
  show ¬ (255 : Int32) < (y &&& (255 : Int32)).toUInt32.toUInt16.toUInt32.toInt32.toUInt32.toUInt16.toUInt32.toInt32
  rw [Int32.lt_iff_toInt_lt]
  omega
theorem pd_30 : parseMethodDescriptor "([C)V" = some ⟨[(.array .char)], none⟩ := by decide +kernel
theorem pd_31 : parseMethodDescriptor "(J)Lcom/example/internode_coordination/internodecoordination/member/LogEntry;" = some ⟨[.long], some (.object "com/example/internode_coordination/internodecoordination/member/LogEntry")⟩ := by decide +kernel
theorem pn_0 : plainName "com/example/internode_coordination/internodecoordination/member/LogEntryIsNoOperationPinLaw" = true := by first | (simp [plainName, overriddenIn]; done) | decide +kernel
theorem ef_0 (m : MethodId) (x0 : Int64) (x1 : Int32) (x2 : Int64) (x3 : Int64) (x4 : Int32) (x5 : Int32) : entryFrame m #[(.long x0), (.int x1), (.long x2), (.long x3), (.int x4), (.int x5)] maxLocals = mkF m 0 #[.val (.long x0), .second, .val (.int x1), .val (.long x2), .second, .val (.long x3), .second, .val (.int x4), .val (.int x5), .unset, .unset, .unset, .unset] [] := by first | (simp [entryFrame, mkF, argsToLocals, Value.category, maxLocals]; done) | rfl
def Q0 (Z : State) (q1 : Int64) (p2 : Int32) (q3 : Int64) (q4 : Int64) (p5 : Int32) (p6 : Int32) (cs : Int32) (h0 : Heap) (n0 : Nat) (v : Option Value) (h : Heap) (L : List Loc) : Prop := v = some (.int 1) ∧ Fr n0 L
set_option maxRecDepth 65536 in
set_option maxHeartbeats 40000000 in
theorem rm0 (l : Launch) (Z : State) (a0 : Array Value) (hw : ∀ d ∈ tables_1, d.before a0 Z = true) (ws : List Jvm.Cond) (q1 : Int64) (p2 : Int32) (q3 : Int64) (q4 : Int64) (p5 : Int32) (p6 : Int32) (cs : Int32) (h0 : Heap) (n0 : Nat) (Z0 : n0 ≤ h0.size) (O0 : Old Z n0 h0) (SCS : Sta Z Z.heap "java/lang/String" "COMPACT_STRINGS" "Z" (.int cs)) (hcs : ¬ cs = (0 : Int32)) (TB : own_T Z) :
    MetFree l x (head1 (Jvm.Cond.code x code maxLocals ret :: ws) room_1) (fun a U => a = #[(.long q1), (.int p2), (.long q3), (.long q4), (.int p5), (.int p6)] ∧ Z.Warmed39 U.vm ∧ U.heap = h0 ∧ CHv Z consts_1 U.vm h0) (fun _ _ _ _ _ => True) (fun _ U o U' => ∃ v L, o = .returned v ∧ Q0 Z q1 p2 q3 q4 p5 p6 cs h0 n0 v U'.heap L ∧ CHr Z consts_1 U.vm U.heap U'.vm U'.heap ∧ ReturnedEndW U o U' L 37 3556) := by
  refine MetFree.of_bodySF (plainFor_of_name pn_0) hisR ?_
  intro p e s m args below meth c s₁ Bd hml0 hP hK
  obtain ⟨rfl, hZ, hh, hCH⟩ := hP
  have hx := Bd.exec
  have hby := Bd.bytes
  have hml : c.maxLocals = 13 := hml0
  have hown : s.vm.findClass "com/example/internode_coordination/internodecoordination/member/LogEntryIsNoOperationPinLaw" = some m.cls := findClass_of_methodNamed Bd.named
  have hnm := (name_of_methodNamed Bd.named Bd.method).1
  have X0 : Stand p l e room_1 s m #[(.long q1), (.int p2), (.long q3), (.long q4), (.int p5), (.int p6)] below meth c s₁ [] 0 0 := Stand.of_body Bd
  have e0 : s₁.heap = h0 := by rw [← hh, Bd.state]; rfl
  have N0 := Fr.nil n0
  apply own_in
  refine own_pre (B := s₁.setTop (mkF m 0 #[.val (.long q1), .second, .val (.int p2), .val (.long q3), .second, .val (.long q4), .second, .val (.int p5), .val (.int p6), .unset, .unset, .unset, .unset] [])) (fun t k => castTop (ef_0 m q1 p2 q3 q4 p5 p6) k) ?_
  have hZ : Z.Warmed39 (s.setVm s.vm).vm := hZ
  have hown : (s.setVm s.vm).vm.findClass "com/example/internode_coordination/internodecoordination/member/LogEntryIsNoOperationPinLaw" = some m.cls := hown
  have X0 : Stand p l e room_1 (s.setVm s.vm) m #[(.long q1), (.int p2), (.long q3), (.long q4), (.int p5), (.int p6)] below meth c s₁ [] 0 0 := X0
  have hS0 := own_since s h0.size
  have hk0 : h0.size ≤ h0.size := Nat.le_refl _
  have R0 := CHr.refl hCH
  refine own_pre (B := s₁.setTop (mkF m 2 #[.val (.long q1), .second, .val (.int p2), .val (.long q3), .second, .val (.long q4), .second, .val (.int p5), .val (.int p6), .unset, .unset, .unset, .unset] [(.int p6)])) (fun t k => XS.iload X0.here hx rfl (hb hby at_0) rfl k) ?_
  refine own_pre (B := s₁.setTop (mkF m 3 #[.val (.long q1), .second, .val (.int p2), .val (.long q3), .second, .val (.long q4), .second, .val (.int p5), .val (.int p6), .unset, .unset, .unset, .unset] [(.int (1 : Int32)), (.int p6)])) (fun t k => XS.iconst X0.here hx rfl (hb hby at_2) k) ?_
  refine own_pre (B := s₁.setTop (mkF m 4 #[.val (.long q1), .second, .val (.int p2), .val (.long q3), .second, .val (.long q4), .second, .val (.int p5), .val (.int p6), .unset, .unset, .unset, .unset] [(.int (p6 &&& (1 : Int32)))])) (fun t k => XS.iand X0.here hx rfl (hb hby at_3) rfl k) ?_
  by_cases hc4_7 : (p6 &&& (1 : Int32)) = (0 : Int32)
  · refine own_pre (B := s₁.setTop (mkF m 14 #[.val (.long q1), .second, .val (.int p2), .val (.long q3), .second, .val (.long q4), .second, .val (.int p5), .val (.int p6), .unset, .unset, .unset, .unset] [])) (fun t k => XS.ifYes X0.here hx rfl (pc0 := 4) (pc' := 14) rfl (hb hby at_4) rfl ((if0 _ _).trans (teq hc4_7).1) (by decide) (by decide) k) ?_
    refine own_pre (B := s₁.setTop (mkF m 15 #[.val (.long q1), .second, .val (.int p2), .val (.long q3), .second, .val (.long q4), .second, .val (.int p5), .val (.int p6), .unset, .unset, .unset, .unset] [(.int (2 : Int32))])) (fun t k => XS.iconst X0.here hx rfl (hb hby at_14) k) ?_
    have K8 : Keep h0 h0 [] := (Keep.refl h0 [])
    obtain ⟨T9, h9, k9, X9, e9, E9, A9, st9⟩ := newP X0 hx hZ (hw _ (ow 217 rfl)) e0 (g := (mkF m 15 #[.val (.long q1), .second, .val (.int p2), .val (.long q3), .second, .val (.long q4), .second, .val (.int p5), .val (.int p6), .unset, .unset, .unset, .unset] [(.int (2 : Int32))])) rfl (hb hby at_15) rfl (by decide) (cap := 2) (by decide) (by decide) (by decide) (by decide)
    obtain ⟨b9, g9⟩ : ∃ z, z = h0.size := ⟨_, rfl⟩
    rw [← g9] at A9 st9
    have g_b9 : n0 ≤ b9 := Nat.le_trans Z0 (Nat.le_of_eq g9.symm)
    have s_b9 : h0.size ≤ b9 := Nat.le_trans K8.1 (Nat.le_of_eq g9.symm)
    have S10_b9 := Safe.ext E9 R0.1 (Safe.new (Nat.le_of_eq g9.symm))
    have R10 := CHr.trans R0 (CHr.ext E9 R0.1)
    have V_b9 : Arv Z h9 b9 k9 .char (2 : Int32) [(.int (0 : Int32)), (.int (0 : Int32))] (.int (0 : Int32)) := (Arv.new A9 (by decide)).pad (pad_rep [] (.int (0 : Int32)) 2)
    refine own_pre (B := T9.setTop (mkF m 17 #[.val (.long q1), .second, .val (.int p2), .val (.long q3), .second, .val (.long q4), .second, .val (.int p5), .val (.int p6), .unset, .unset, .unset, .unset] [(.ref b9)])) (fun t k => st9 t k) ?_
    refine own_pre (B := T9.setTop (mkF m 19 #[.val (.long q1), .second, .val (.int p2), .val (.long q3), .second, .val (.long q4), .second, .val (.int p5), .val (.int p6), .unset, .val (.ref b9), .unset, .unset] [])) (fun t k => XS.astore X9.here hx rfl (hb hby at_17) rfl rfl (l' := #[.val (.long q1), .second, .val (.int p2), .val (.long q3), .second, .val (.long q4), .second, .val (.int p5), .val (.int p6), .unset, .val (.ref b9), .unset, .unset]) rfl k) ?_
    refine own_pre (B := T9.setTop (mkF m 21 #[.val (.long q1), .second, .val (.int p2), .val (.long q3), .second, .val (.long q4), .second, .val (.int p5), .val (.int p6), .unset, .val (.ref b9), .unset, .unset] [(.ref b9)])) (fun t k => XS.aload X9.here hx rfl (hb hby at_19) rfl rfl k) ?_
    refine own_pre (B := T9.setTop (mkF m 22 #[.val (.long q1), .second, .val (.int p2), .val (.long q3), .second, .val (.long q4), .second, .val (.int p5), .val (.int p6), .unset, .val (.ref b9), .unset, .unset] [(.int (0 : Int32)), (.ref b9)])) (fun t k => XS.iconst X9.here hx rfl (hb hby at_21) k) ?_
    refine own_pre (B := T9.setTop (mkF m 24 #[.val (.long q1), .second, .val (.int p2), .val (.long q3), .second, .val (.long q4), .second, .val (.int p5), .val (.int p6), .unset, .val (.ref b9), .unset, .unset] [(.int p5), (.int (0 : Int32)), (.ref b9)])) (fun t k => XS.iload X9.here hx rfl (hb hby at_22) rfl k) ?_
    refine own_pre (B := T9.setTop (mkF m 27 #[.val (.long q1), .second, .val (.int p2), .val (.long q3), .second, .val (.long q4), .second, .val (.int p5), .val (.int p6), .unset, .val (.ref b9), .unset, .unset] [(.int (255 : Int32)), (.int p5), (.int (0 : Int32)), (.ref b9)])) (fun t k => XS.sipush X9.here hx rfl (hb hby at_24) k) ?_
    refine own_pre (B := T9.setTop (mkF m 28 #[.val (.long q1), .second, .val (.int p2), .val (.long q3), .second, .val (.long q4), .second, .val (.int p5), .val (.int p6), .unset, .val (.ref b9), .unset, .unset] [(.int (p5 &&& (255 : Int32))), (.int (0 : Int32)), (.ref b9)])) (fun t k => XS.iand X9.here hx rfl (hb hby at_27) rfl k) ?_
    refine own_pre (B := T9.setTop (mkF m 29 #[.val (.long q1), .second, .val (.int p2), .val (.long q3), .second, .val (.long q4), .second, .val (.int p5), .val (.int p6), .unset, .val (.ref b9), .unset, .unset] [(.int ((p5 &&& (255 : Int32)).toUInt32.toUInt16.toUInt32.toInt32)), (.int (0 : Int32)), (.ref b9)])) (fun t k => XS.i2c X9.here hx rfl (hb hby at_28) rfl k) ?_
    have K11 : Keep h0 h9 [] := (Keep.ext K8 E9)
    obtain ⟨cl12, Ar12, q12, S12, N12v, H12v, G12v⟩ := V_b9
    have V_b9 : Arv Z h9 b9 k9 .char (2 : Int32) [(.int (0 : Int32)), (.int (0 : Int32))] (.int (0 : Int32)) := ⟨cl12, Ar12, q12, S12, N12v, H12v, G12v⟩
    have hin12 : ¬ ((0 : Int32) < 0 ∨ cl12.slots.size ≤ ((0 : Int32)).toNatClampNeg) := inb_of S12 ⟨by decide, by decide⟩
    obtain ⟨T13, h13, X13, e13, W13, st13⟩ := stC X9 hx hZ e9 Ar12 (j := (0 : Int32)) hin12 (g := (mkF m 29 #[.val (.long q1), .second, .val (.int p2), .val (.long q3), .second, .val (.long q4), .second, .val (.int p5), .val (.int p6), .unset, .val (.ref b9), .unset, .unset] [(.int ((p5 &&& (255 : Int32)).toUInt32.toUInt16.toUInt32.toInt32)), (.int (0 : Int32)), (.ref b9)])) rfl rfl (hb hby at_29)
    have V13 : Arv Z h13 b9 k9 .char (2 : Int32) [(.int (nar .char ((p5 &&& (255 : Int32)).toUInt32.toUInt16.toUInt32.toInt32))), (.int (0 : Int32))] (.int (0 : Int32)) := Arv.set Ar12 q12 S12 N12v H12v G12v (fits_nar_char _) W13 0 rfl (Nat.le_of_ble_eq_true rfl)
    have N13 := Fr.snoc X13 N0 g_b9
    have S14_b9 := Safe.wr W13 S10_b9 R10.1 S10_b9
    have R14 := CHr.trans R10 (CHr.wr W13 S10_b9 R10.1)
    obtain ⟨Lh15, Xh15, Nh15⟩ := own_hide X13 N13
    refine own_pre (B := T13.setTop (mkF m 30 #[.val (.long q1), .second, .val (.int p2), .val (.long q3), .second, .val (.long q4), .second, .val (.int p5), .val (.int p6), .unset, .val (.ref b9), .unset, .unset] [])) (fun t k => st13 t k) ?_
    refine own_pre (B := T13.setTop (mkF m 32 #[.val (.long q1), .second, .val (.int p2), .val (.long q3), .second, .val (.long q4), .second, .val (.int p5), .val (.int p6), .unset, .val (.ref b9), .unset, .unset] [(.ref b9)])) (fun t k => XS.aload Xh15.here hx rfl (hb hby at_30) rfl rfl k) ?_
    refine own_pre (B := T13.setTop (mkF m 33 #[.val (.long q1), .second, .val (.int p2), .val (.long q3), .second, .val (.long q4), .second, .val (.int p5), .val (.int p6), .unset, .val (.ref b9), .unset, .unset] [(.int (1 : Int32)), (.ref b9)])) (fun t k => XS.iconst Xh15.here hx rfl (hb hby at_32) k) ?_
    refine own_pre (B := T13.setTop (mkF m 35 #[.val (.long q1), .second, .val (.int p2), .val (.long q3), .second, .val (.long q4), .second, .val (.int p5), .val (.int p6), .unset, .val (.ref b9), .unset, .unset] [(.int p5), (.int (1 : Int32)), (.ref b9)])) (fun t k => XS.iload Xh15.here hx rfl (hb hby at_33) rfl k) ?_
    refine own_pre (B := T13.setTop (mkF m 37 #[.val (.long q1), .second, .val (.int p2), .val (.long q3), .second, .val (.long q4), .second, .val (.int p5), .val (.int p6), .unset, .val (.ref b9), .unset, .unset] [(.int (8 : Int32)), (.int p5), (.int (1 : Int32)), (.ref b9)])) (fun t k => XS.bipush Xh15.here hx rfl (hb hby at_35) k) ?_
    refine own_pre (B := T13.setTop (mkF m 38 #[.val (.long q1), .second, .val (.int p2), .val (.long q3), .second, .val (.long q4), .second, .val (.int p5), .val (.int p6), .unset, .val (.ref b9), .unset, .unset] [(.int ((p5.toUInt32 >>> ((8 : Int32) &&& 31).toUInt32).toInt32)), (.int (1 : Int32)), (.ref b9)])) (fun t k => XS.iushr Xh15.here hx rfl (hb hby at_37) rfl k) ?_
    refine own_pre (B := T13.setTop (mkF m 41 #[.val (.long q1), .second, .val (.int p2), .val (.long q3), .second, .val (.long q4), .second, .val (.int p5), .val (.int p6), .unset, .val (.ref b9), .unset, .unset] [(.int (255 : Int32)), (.int ((p5.toUInt32 >>> ((8 : Int32) &&& 31).toUInt32).toInt32)), (.int (1 : Int32)), (.ref b9)])) (fun t k => XS.sipush Xh15.here hx rfl (hb hby at_38) k) ?_
    refine own_pre (B := T13.setTop (mkF m 42 #[.val (.long q1), .second, .val (.int p2), .val (.long q3), .second, .val (.long q4), .second, .val (.int p5), .val (.int p6), .unset, .val (.ref b9), .unset, .unset] [(.int (((p5.toUInt32 >>> ((8 : Int32) &&& 31).toUInt32).toInt32) &&& (255 : Int32))), (.int (1 : Int32)), (.ref b9)])) (fun t k => XS.iand Xh15.here hx rfl (hb hby at_41) rfl k) ?_
    refine own_pre (B := T13.setTop (mkF m 43 #[.val (.long q1), .second, .val (.int p2), .val (.long q3), .second, .val (.long q4), .second, .val (.int p5), .val (.int p6), .unset, .val (.ref b9), .unset, .unset] [(.int ((((p5.toUInt32 >>> ((8 : Int32) &&& 31).toUInt32).toInt32) &&& (255 : Int32)).toUInt32.toUInt16.toUInt32.toInt32)), (.int (1 : Int32)), (.ref b9)])) (fun t k => XS.i2c Xh15.here hx rfl (hb hby at_42) rfl k) ?_
    have K16 : Keep h0 h13 [] := (Keep.wr K11 W13 (Or.inr s_b9))
    obtain ⟨cl17, Ar17, q17, S17, N17v, H17v, G17v⟩ := V13
    have V13 : Arv Z h13 b9 k9 .char (2 : Int32) [(.int (nar .char ((p5 &&& (255 : Int32)).toUInt32.toUInt16.toUInt32.toInt32))), (.int (0 : Int32))] (.int (0 : Int32)) := ⟨cl17, Ar17, q17, S17, N17v, H17v, G17v⟩
    have hin17 : ¬ ((1 : Int32) < 0 ∨ cl17.slots.size ≤ ((1 : Int32)).toNatClampNeg) := inb_of S17 ⟨by decide, by decide⟩
    obtain ⟨T18, h18, X18, e18, W18, st18⟩ := stC Xh15 hx hZ e13 Ar17 (j := (1 : Int32)) hin17 (g := (mkF m 43 #[.val (.long q1), .second, .val (.int p2), .val (.long q3), .second, .val (.long q4), .second, .val (.int p5), .val (.int p6), .unset, .val (.ref b9), .unset, .unset] [(.int ((((p5.toUInt32 >>> ((8 : Int32) &&& 31).toUInt32).toInt32) &&& (255 : Int32)).toUInt32.toUInt16.toUInt32.toInt32)), (.int (1 : Int32)), (.ref b9)])) rfl rfl (hb hby at_43)
    have V18 : Arv Z h18 b9 k9 .char (2 : Int32) [(.int (nar .char ((p5 &&& (255 : Int32)).toUInt32.toUInt16.toUInt32.toInt32))), (.int (nar .char ((((p5.toUInt32 >>> ((8 : Int32) &&& 31).toUInt32).toInt32) &&& (255 : Int32)).toUInt32.toUInt16.toUInt32.toInt32)))] (.int (0 : Int32)) := Arv.set Ar17 q17 S17 N17v H17v G17v (fits_nar_char _) W18 1 rfl (Nat.le_of_ble_eq_true rfl)
    have N18 := Fr.snoc X18 Nh15 g_b9
    have S19_b9 := Safe.wr W18 S14_b9 R14.1 S14_b9
    have R19 := CHr.trans R14 (CHr.wr W18 S14_b9 R14.1)
    obtain ⟨Lh20, Xh20, Nh20⟩ := own_hide X18 N18
    refine own_pre (B := T18.setTop (mkF m 44 #[.val (.long q1), .second, .val (.int p2), .val (.long q3), .second, .val (.long q4), .second, .val (.int p5), .val (.int p6), .unset, .val (.ref b9), .unset, .unset] [])) (fun t k => st18 t k) ?_
    have K21 : Keep h0 h18 [] := (Keep.wr K16 W18 (Or.inr s_b9))
    obtain ⟨T22, h22, X22, e22, E22, A22, D22, -, st22⟩ := newO Xh20 hx hZ hown (hw _ (ow 218 rfl)) (hw _ (ow 2 rfl)) (hw _ (ow 1 rfl)) e18 (g := (mkF m 44 #[.val (.long q1), .second, .val (.int p2), .val (.long q3), .second, .val (.long q4), .second, .val (.int p5), .val (.int p6), .unset, .val (.ref b9), .unset, .unset] [])) rfl (hb hby at_44) (by decide) (by decide)
    have sz23 : n0 ≤ h18.size := (Nat.le_trans (Nat.le_trans (Nat.le_trans Z0 E9.1) (Keep.of_wr W13).1) (Keep.of_wr W18).1)
    obtain ⟨b22, g22⟩ : ∃ z, z = h18.size := ⟨_, rfl⟩
    rw [← g22] at A22 D22 st22
    have g_b22 : n0 ≤ b22 := Nat.le_trans sz23 (Nat.le_of_eq g22.symm)
    have s_b22 : h0.size ≤ b22 := Nat.le_trans K21.1 (Nat.le_of_eq g22.symm)
    have ne24 : b9 ≠ b22 := Nat.ne_of_lt (Nat.lt_of_lt_of_le (Arv.lt V18) (Nat.le_of_eq g22.symm))
    have S25_b9 := Safe.ext E22 R19.1 S19_b9
    have S25_b22 := Safe.ext E22 R19.1 (Safe.new (Nat.le_of_eq g22.symm))
    have R25 := CHr.trans R19 (CHr.ext E22 R19.1)
    have F_value_b22 : Fld Z h22 b22 "java/lang/String" "value" "[B" .null := D22 (Or.inr (hw _ (ow 4 rfl))) (ty := (.array .byte)) (by decide)
    have F_coder_b22 : Fld Z h22 b22 "java/lang/String" "coder" "B" (.int (0 : Int32)) := D22 (Or.inr (hw _ (ow 5 rfl))) (ty := .byte) (by decide)
    refine own_pre (B := T22.setTop (mkF m 47 #[.val (.long q1), .second, .val (.int p2), .val (.long q3), .second, .val (.long q4), .second, .val (.int p5), .val (.int p6), .unset, .val (.ref b9), .unset, .unset] [(.ref b22)])) (fun t k => st22 t k) ?_
    refine own_pre (B := T22.setTop (mkF m 48 #[.val (.long q1), .second, .val (.int p2), .val (.long q3), .second, .val (.long q4), .second, .val (.int p5), .val (.int p6), .unset, .val (.ref b9), .unset, .unset] [(.ref b22), (.ref b22)])) (fun t k => XS.dup X22.here hx rfl (hb hby at_47) rfl rfl k) ?_
    refine own_pre (B := T22.setTop (mkF m 50 #[.val (.long q1), .second, .val (.int p2), .val (.long q3), .second, .val (.long q4), .second, .val (.int p5), .val (.int p6), .unset, .val (.ref b9), .unset, .unset] [(.ref b9), (.ref b22), (.ref b22)])) (fun t k => XS.aload X22.here hx rfl (hb hby at_48) rfl rfl k) ?_
    have O26 := (Old.ext (Old.wr (Old.wr (Old.ext O0 E9) W13 g_b9) W18 g_b9) E22)
    have c27 := (Arv.ext V18 E22)
    have sz28 : n0 ≤ h22.size := (Nat.le_trans sz23 E22.1)
    obtain ⟨_, _, ⟨T29, L29, k29, n29⟩, -, X29, ⟨Lc29, hQ29, l29, y29, z29⟩, st29⟩ := X22.specialBack hx (y := (⟨"java/lang/String", "<init>", "([C)V"⟩ : MethodName)) rfl hown (mvT hZ (hw _ (ow 219 rfl))) (mvT hZ (hw _ (ow 220 rfl))) (mvT hZ (hw _ (ow 221 rfl))) (by decide) (backOf (W := 1) (rm39 l Z a0 hw [] b22 b9 cs .null (.int (0 : Int32)) k9 (nar .char ((p5 &&& (255 : Int32)).toUInt32.toUInt16.toUInt32.toInt32)) (nar .char ((((p5.toUInt32 >>> ((8 : Int32) &&& 31).toUInt32).toInt32) &&& (255 : Int32)).toUInt32.toUInt16.toUInt32.toInt32)) h22 n0 sz28 O26 SCS hcs A22 F_value_b22 F_coder_b22 c27 (own_ch _) (own_ch _) g_b22) hZ (hw _ (ow 221 rfl)) (hw _ (ow 1 rfl)) (by decide) (by decide)) (g := (mkF m 50 #[.val (.long q1), .second, .val (.int p2), .val (.long q3), .second, .val (.long q4), .second, .val (.int p5), .val (.int p6), .unset, .val (.ref b9), .unset, .unset] [(.ref b9), (.ref b22), (.ref b22)])) rfl (by rw [hml]; rfl) (Steps.refl _) (a := b22) (argsL := [(.ref b9)]) (rest := [(.ref b22)]) (lenOf pd_30 rfl) rfl (by show 2 * 0 + _ ≤ _; exact Nat.le_of_eq rfl) (hb hby at_50) (fun _ _ => ⟨rfl, e22, (by decide : 2 + 1 ≤ _), (by decide : 6 + 2 ≤ _)⟩)
    dsimp only [Pt.U, Pt.locs, Pt.cells, Pt.slots] at X29 l29 y29 z29 st29 hQ29
    subst l29 y29 z29
    obtain ⟨b3_5_4_29, k3_5_4_29, rfl, N29q, K29, q29_0, q29_1, q29_2, q29_3, q29_4, q29_5, q29_6⟩ := hQ29
    have N29 := Fr.app Nh20 N29q
    have K30 : Keep h0 h22 [] := (Keep.ext K21 E22)
    have ne31 : b22 ≠ b3_5_4_29 := Nat.ne_of_lt (Nat.lt_of_lt_of_le (Exa.lt A22) q29_4)
    have ne32 : b9 ≠ b3_5_4_29 := Nat.ne_of_lt (Nat.lt_of_lt_of_le (Arv.lt c27) q29_4)
    have s_b3_5_4_29 : h0.size ≤ b3_5_4_29 := Nat.le_trans K30.1 q29_4
    have S33_b9 := Safe.keep K29 (sfS S25_b22 sf0) R25.1 S25_b9
    have S33_b22 := Safe.keep K29 (sfS S25_b22 sf0) R25.1 S25_b22
    have S33_b3_5_4_29 := Safe.keep K29 (sfS S25_b22 sf0) R25.1 (Safe.new q29_4)
    have R33 := CHr.trans R25 (CHr.keep K29 (sfS S25_b22 sf0) R25.1)
    obtain ⟨Lh34, Xh34, Nh34⟩ := own_hide X29 N29
    refine own_pre (B := T29.setTop (mkF m 53 #[.val (.long q1), .second, .val (.int p2), .val (.long q3), .second, .val (.long q4), .second, .val (.int p5), .val (.int p6), .unset, .val (.ref b9), .unset, .unset] [(.ref b22)])) (fun t k => st29.trans k) ?_
    refine own_pre (B := T29.setTop (mkF m 55 #[.val (.long q1), .second, .val (.int p2), .val (.long q3), .second, .val (.long q4), .second, .val (.int p5), .val (.int p6), .val (.ref b22), .val (.ref b9), .unset, .unset] [])) (fun t k => XS.astore Xh34.here hx rfl (hb hby at_53) rfl rfl (l' := #[.val (.long q1), .second, .val (.int p2), .val (.long q3), .second, .val (.long q4), .second, .val (.int p5), .val (.int p6), .val (.ref b22), .val (.ref b9), .unset, .unset]) rfl k) ?_
    have K35 : Keep h0 T29.heap [] := (Keep.trans K30 K29 (allS (P := fun x => x ∈ [] ∨ h0.size ≤ x) (Or.inr s_b22) all0))
    obtain ⟨T36, h36, X36, e36, E36, A36, D36, -, st36⟩ := newO Xh34 hx hZ hown (hw _ (ow 8 rfl)) (hw _ (ow 9 rfl)) (hw _ (ow 10 rfl)) rfl (g := (mkF m 55 #[.val (.long q1), .second, .val (.int p2), .val (.long q3), .second, .val (.long q4), .second, .val (.int p5), .val (.int p6), .val (.ref b22), .val (.ref b9), .unset, .unset] [])) rfl (hb hby at_55) (by decide) (by decide)
    have sz37 : n0 ≤ T29.heap.size := (Nat.le_trans sz28 K29.1)
    obtain ⟨b36, g36⟩ : ∃ z, z = T29.heap.size := ⟨_, rfl⟩
    rw [← g36] at A36 D36 st36
    have g_b36 : n0 ≤ b36 := Nat.le_trans sz37 (Nat.le_of_eq g36.symm)
    have s_b36 : h0.size ≤ b36 := Nat.le_trans K35.1 (Nat.le_of_eq g36.symm)
    have ne38 : b22 ≠ b36 := Nat.ne_of_lt (Nat.lt_of_lt_of_le (Exa.lt q29_0) (Nat.le_of_eq g36.symm))
    have ne39 : b3_5_4_29 ≠ b36 := Nat.ne_of_lt (Nat.lt_of_lt_of_le (Exa.lt q29_5) (Nat.le_of_eq g36.symm))
    have c40 := (Arv.keep c27 K29 (ninS ne24 nin0))
    have ne41 : b9 ≠ b36 := Nat.ne_of_lt (Nat.lt_of_lt_of_le (Arv.lt c40) (Nat.le_of_eq g36.symm))
    have S42_b9 := Safe.ext E36 R33.1 S33_b9
    have S42_b22 := Safe.ext E36 R33.1 S33_b22
    have S42_b3_5_4_29 := Safe.ext E36 R33.1 S33_b3_5_4_29
    have S42_b36 := Safe.ext E36 R33.1 (Safe.new (Nat.le_of_eq g36.symm))
    have R42 := CHr.trans R33 (CHr.ext E36 R33.1)
    have F_term_b36 : Fld Z h36 b36 "com/example/internode_coordination/internodecoordination/member/LogEntry" "term" "J" (.long (0 : Int64)) := D36 (Or.inr (hw _ (ow 194 rfl))) (ty := .long) (by decide)
    have F_origin_b36 : Fld Z h36 b36 "com/example/internode_coordination/internodecoordination/member/LogEntry" "origin" "I" (.int (0 : Int32)) := D36 (Or.inr (hw _ (ow 196 rfl))) (ty := .int) (by decide)
    have F_boot_b36 : Fld Z h36 b36 "com/example/internode_coordination/internodecoordination/member/LogEntry" "boot" "J" (.long (0 : Int64)) := D36 (Or.inr (hw _ (ow 198 rfl))) (ty := .long) (by decide)
    have F_sequence_b36 : Fld Z h36 b36 "com/example/internode_coordination/internodecoordination/member/LogEntry" "sequence" "J" (.long (0 : Int64)) := D36 (Or.inr (hw _ (ow 200 rfl))) (ty := .long) (by decide)
    have F_command_b36 : Fld Z h36 b36 "com/example/internode_coordination/internodecoordination/member/LogEntry" "command" "Ljava/lang/String;" .null := D36 (Or.inr (hw _ (ow 202 rfl))) (ty := (.object "java/lang/String")) (by decide)
    have F_text_b36 : Fld Z h36 b36 "com/example/internode_coordination/internodecoordination/member/LogEntry" "text" "Ljava/lang/String;" .null := D36 (Or.inr (hw _ (ow 204 rfl))) (ty := (.object "java/lang/String")) (by decide)
    refine own_pre (B := T36.setTop (mkF m 58 #[.val (.long q1), .second, .val (.int p2), .val (.long q3), .second, .val (.long q4), .second, .val (.int p5), .val (.int p6), .val (.ref b22), .val (.ref b9), .unset, .unset] [(.ref b36)])) (fun t k => st36 t k) ?_
    refine own_pre (B := T36.setTop (mkF m 59 #[.val (.long q1), .second, .val (.int p2), .val (.long q3), .second, .val (.long q4), .second, .val (.int p5), .val (.int p6), .val (.ref b22), .val (.ref b9), .unset, .unset] [(.ref b36), (.ref b36)])) (fun t k => XS.dup X36.here hx rfl (hb hby at_58) rfl rfl k) ?_
    refine own_pre (B := T36.setTop (mkF m 60 #[.val (.long q1), .second, .val (.int p2), .val (.long q3), .second, .val (.long q4), .second, .val (.int p5), .val (.int p6), .val (.ref b22), .val (.ref b9), .unset, .unset] [(.long q1), (.ref b36), (.ref b36)])) (fun t k => XS.lloadN X36.here hx rfl (hb hby at_59) rfl k) ?_
    refine own_pre (B := T36.setTop (mkF m 61 #[.val (.long q1), .second, .val (.int p2), .val (.long q3), .second, .val (.long q4), .second, .val (.int p5), .val (.int p6), .val (.ref b22), .val (.ref b9), .unset, .unset] [(.int p2), (.long q1), (.ref b36), (.ref b36)])) (fun t k => XS.iloadN X36.here hx rfl (hb hby at_60) rfl k) ?_
    refine own_pre (B := T36.setTop (mkF m 62 #[.val (.long q1), .second, .val (.int p2), .val (.long q3), .second, .val (.long q4), .second, .val (.int p5), .val (.int p6), .val (.ref b22), .val (.ref b9), .unset, .unset] [(.long q3), (.int p2), (.long q1), (.ref b36), (.ref b36)])) (fun t k => XS.lloadN X36.here hx rfl (hb hby at_61) rfl k) ?_
    refine own_pre (B := T36.setTop (mkF m 64 #[.val (.long q1), .second, .val (.int p2), .val (.long q3), .second, .val (.long q4), .second, .val (.int p5), .val (.int p6), .val (.ref b22), .val (.ref b9), .unset, .unset] [(.long q4), (.long q3), (.int p2), (.long q1), (.ref b36), (.ref b36)])) (fun t k => XS.lload X36.here hx rfl (hb hby at_62) rfl k) ?_
    refine own_pre (B := T36.setTop (mkF m 66 #[.val (.long q1), .second, .val (.int p2), .val (.long q3), .second, .val (.long q4), .second, .val (.int p5), .val (.int p6), .val (.ref b22), .val (.ref b9), .unset, .unset] [(.ref b22), (.long q4), (.long q3), (.int p2), (.long q1), (.ref b36), (.ref b36)])) (fun t k => XS.aload X36.here hx rfl (hb hby at_64) rfl rfl k) ?_
    have O43 := (Old.ext (Old.keep O26 K29 (allS (P := fun x => n0 ≤ x) g_b22 all0)) E36)
    have c44 := (q29_0.ext E36)
    have c45 := (q29_2.ext E36)
    have c46 := (q29_1.ext E36)
    have c47 := (Arv.ext q29_6 E36)
    have sz48 : n0 ≤ h36.size := (Nat.le_trans sz37 E36.1)
    obtain ⟨_, _, ⟨T49, L49, k49, n49⟩, -, X49, hS49, hgr49, ⟨Lc49, hQ49, l49, y49, z49, hR49⟩, st49⟩ := X36.specialBackS hx (y := (⟨"com/example/internode_coordination/internodecoordination/member/LogEntry", "<init>", "(JIJJLjava/lang/String;)V"⟩ : MethodName)) rfl hown (mvT hZ (hw _ (ow 11 rfl))) (mvT hZ (hw _ (ow 12 rfl))) (mvT hZ (hw _ (ow 13 rfl))) (by decide) (backOfSH (W := 1) (rm1 l Z a0 hw [] b36 q1 p2 q3 q4 b22 cs b3_5_4_29 k3_5_4_29 [(.int (nar .byte ((nar .char ((p5 &&& (255 : Int32)).toUInt32.toUInt16.toUInt32.toInt32)).toInt8.toInt32))), (.int (nar .byte ((nar .char ((((p5.toUInt32 >>> ((8 : Int32) &&& 31).toUInt32).toInt32) &&& (255 : Int32)).toUInt32.toUInt16.toUInt32.toInt32)).toInt8.toInt32)))] (2 : Int32) (.long (0 : Int64)) (.int (0 : Int32)) (.long (0 : Int64)) (.long (0 : Int64)) .null .null h36 n0 sz48 A36 O43 SCS hcs c44 c45 c46 c47 TB own_M2 F_term_b36 F_origin_b36 F_boot_b36 F_sequence_b36 F_command_b36 F_text_b36 g_b36) hZ (hw _ (ow 13 rfl)) (hw _ (ow 10 rfl)) (by decide) (by decide) (own_EW hw) R42.1) (g := (mkF m 66 #[.val (.long q1), .second, .val (.int p2), .val (.long q3), .second, .val (.long q4), .second, .val (.int p5), .val (.int p6), .val (.ref b22), .val (.ref b9), .unset, .unset] [(.ref b22), (.long q4), (.long q3), (.int p2), (.long q1), (.ref b36), (.ref b36)])) rfl (by rw [hml]; rfl) (Steps.refl _) (a := b36) (argsL := [(.long q1), (.int p2), (.long q3), (.long q4), (.ref b22)]) (rest := [(.ref b36)]) (lenOf pd_29 rfl) rfl (by show 2 * 0 + _ ≤ _; exact Nat.le_of_eq rfl) (hb hby at_66) (fun _ _ => ⟨rfl, e36, (by decide : 4 + 15 ≤ _), (by decide : 14 + 1752 ≤ _)⟩)
    dsimp only [Pt.U, Pt.locs, Pt.cells, Pt.slots] at X49 l49 y49 z49 st49 hQ49 hS49 hgr49 hR49
    have hS49f := foldS hS0 (by rw [e36]; exact (Nat.le_trans (Nat.le_trans (Nat.le_trans (Nat.le_trans (Nat.le_trans (Nat.le_trans hk0 E9.1) (Keep.of_wr W13).1) (Keep.of_wr W18).1) E22.1) K29.1) E36.1)) hS49 hgr49
    have hZ : Z.Warmed39 (s.setVm T49.vm).vm := State.Warmed39.trans (t := s.setVm _) hZ hS49.1
    have hown : (s.setVm T49.vm).vm.findClass "com/example/internode_coordination/internodecoordination/member/LogEntryIsNoOperationPinLaw" = some m.cls := by rw [show (s.setVm T49.vm).vm = T49.vm from rfl, hS49.1.alike.findClass]; exact hown
    subst l49 y49 z49
    obtain ⟨rfl, N49q, K49, qE49, qF49⟩ := hQ49
    have N49 := Fr.app Nh34 N49q
    have K50 : Keep h0 h36 [] := (Keep.ext K35 E36)
    have c52 := (Arv.ext c40 E36)
    have S51_b9 := CHr.safe hR49 (Arv.lt c52) S42_b9
    have S51_b22 := CHr.safe hR49 (Exa.lt c44) S42_b22
    have c53 := (q29_5.ext E36)
    have S51_b3_5_4_29 := CHr.safe hR49 (Exa.lt c53) S42_b3_5_4_29
    have S51_b36 := CHr.safe hR49 (Exa.lt A36) S42_b36
    have R51 := CHr.trans R42 hR49
    have X49 := own_re X49
    obtain ⟨Lh54, Xh54, Nh54⟩ := own_hide X49 N49
    refine own_pre (B := T49.setTop (mkF m 69 #[.val (.long q1), .second, .val (.int p2), .val (.long q3), .second, .val (.long q4), .second, .val (.int p5), .val (.int p6), .val (.ref b22), .val (.ref b9), .unset, .unset] [(.ref b36)])) (fun t k => st49.trans k) ?_
    refine own_pre (B := T49.setTop (mkF m 71 #[.val (.long q1), .second, .val (.int p2), .val (.long q3), .second, .val (.long q4), .second, .val (.int p5), .val (.int p6), .val (.ref b22), .val (.ref b36), .unset, .unset] [])) (fun t k => XS.astore Xh54.here hx rfl (hb hby at_69) rfl rfl (l' := #[.val (.long q1), .second, .val (.int p2), .val (.long q3), .second, .val (.long q4), .second, .val (.int p5), .val (.int p6), .val (.ref b22), .val (.ref b36), .unset, .unset]) rfl k) ?_
    refine own_pre (B := T49.setTop (mkF m 72 #[.val (.long q1), .second, .val (.int p2), .val (.long q3), .second, .val (.long q4), .second, .val (.int p5), .val (.int p6), .val (.ref b22), .val (.ref b36), .unset, .unset] [(.long q1)])) (fun t k => XS.lloadN Xh54.here hx rfl (hb hby at_71) rfl k) ?_
    have O55 := (Old.keep O43 K49 (allS (P := fun x => n0 ≤ x) g_b36 all0))
    have sz56 : n0 ≤ T49.heap.size := (Nat.le_trans sz48 K49.1)
    obtain ⟨_, _, ⟨T57, L57, k57, n57⟩, -, X57, hS57, hgr57, ⟨Lc57, hQ57, l57, y57, z57, hR57⟩, st57⟩ := callSS Xh54 hx (y := (⟨"com/example/internode_coordination/internodecoordination/member/LogEntry", "noOperation", "(J)Lcom/example/internode_coordination/internodecoordination/member/LogEntry;"⟩ : MethodName)) hown (mvT hZ (hw _ (ow 205 rfl))) (mvT hZ (hw _ (ow 206 rfl))) (mvT hZ (hw _ (ow 10 rfl))) (mvT hZ (hw _ (ow 207 rfl))) (by decide) (backOfSH (W := 0) (rm37 l Z a0 hw [] q1 cs T49.heap n0 sz56 O55 SCS hcs TB) hZ (hw _ (ow 207 rfl)) (hw _ (ow 10 rfl)) (by decide) (by decide) (own_EW hw) R51.1) (g := (mkF m 72 #[.val (.long q1), .second, .val (.int p2), .val (.long q3), .second, .val (.long q4), .second, .val (.int p5), .val (.int p6), .val (.ref b22), .val (.ref b36), .unset, .unset] [(.long q1)])) rfl (by rw [hml]; rfl) (argsL := [(.long q1)]) (rest := []) (lenOf pd_31 rfl) rfl (by show 2 * 0 + _ ≤ _; exact Nat.le_of_eq rfl) (hb hby at_72) (fun _ _ => ⟨rfl, rfl, (by decide : 19 + 18 ≤ _), (by decide : 1766 + 1778 ≤ _)⟩)
    dsimp only [Pt.U, Pt.locs, Pt.cells, Pt.slots] at X57 l57 y57 z57 st57 hQ57 hS57 hgr57 hR57
    have hS57f := foldS hS49f (Nat.le_refl _) hS57 hgr57
    have hZ : Z.Warmed39 (s.setVm T57.vm).vm := State.Warmed39.trans (t := s.setVm _) hZ hS57.1
    have hown : (s.setVm T57.vm).vm.findClass "com/example/internode_coordination/internodecoordination/member/LogEntryIsNoOperationPinLaw" = some m.cls := by rw [show (s.setVm T57.vm).vm = T57.vm from rfl, hS57.1.alike.findClass]; exact hown
    subst l57 y57 z57
    obtain ⟨b_57, rfl, N57q, K57, qg57, qs57, qE57, qF57⟩ := hQ57
    have N57 := Fr.app Nh54 N57q
    have K58 : Keep h0 T49.heap [] := (Keep.trans K50 K49 (allS (P := fun x => x ∈ [] ∨ h0.size ≤ x) (Or.inr s_b36) all0))
    have c59 := (Exa.keep c44 K49)
    have ne60 : b22 ≠ b_57 := Nat.ne_of_lt (Nat.lt_of_lt_of_le (Exa.lt c59) qs57)
    have ne61 : b36 ≠ b_57 := Nat.ne_of_lt (Nat.lt_of_lt_of_le (Exa.lt qE49) qs57)
    have c62 := (Exa.keep c53 K49)
    have ne63 : b3_5_4_29 ≠ b_57 := Nat.ne_of_lt (Nat.lt_of_lt_of_le (Exa.lt c62) qs57)
    have c64 := (Arv.keep c52 K49 (ninS ne41 nin0))
    have ne65 : b9 ≠ b_57 := Nat.ne_of_lt (Nat.lt_of_lt_of_le (Arv.lt c64) qs57)
    have s_b_57 : h0.size ≤ b_57 := Nat.le_trans K58.1 qs57
    have S66_b9 := CHr.safe hR57 (Arv.lt c64) S51_b9
    have S66_b22 := CHr.safe hR57 (Exa.lt c59) S51_b22
    have S66_b3_5_4_29 := CHr.safe hR57 (Exa.lt c62) S51_b3_5_4_29
    have S66_b36 := CHr.safe hR57 (Exa.lt qE49) S51_b36
    have R66 := CHr.trans R51 hR57
    have X57 := own_re X57
    obtain ⟨Lh67, Xh67, Nh67⟩ := own_hide X57 N57
    refine own_pre (B := T57.setTop (mkF m 75 #[.val (.long q1), .second, .val (.int p2), .val (.long q3), .second, .val (.long q4), .second, .val (.int p5), .val (.int p6), .val (.ref b22), .val (.ref b36), .unset, .unset] [(.ref b_57)])) (fun t k => st57.trans k) ?_
    refine own_pre (B := T57.setTop (mkF m 77 #[.val (.long q1), .second, .val (.int p2), .val (.long q3), .second, .val (.long q4), .second, .val (.int p5), .val (.int p6), .val (.ref b22), .val (.ref b36), .val (.ref b_57), .unset] [])) (fun t k => XS.astore Xh67.here hx rfl (hb hby at_75) rfl rfl (l' := #[.val (.long q1), .second, .val (.int p2), .val (.long q3), .second, .val (.long q4), .second, .val (.int p5), .val (.int p6), .val (.ref b22), .val (.ref b36), .val (.ref b_57), .unset]) rfl k) ?_
    refine own_pre (B := T57.setTop (mkF m 78 #[.val (.long q1), .second, .val (.int p2), .val (.long q3), .second, .val (.long q4), .second, .val (.int p5), .val (.int p6), .val (.ref b22), .val (.ref b36), .val (.ref b_57), .unset] [(.int p2)])) (fun t k => XS.iloadN Xh67.here hx rfl (hb hby at_77) rfl k) ?_
    by_cases hc78_68 : p2 = (0 : Int32)
    · refine own_pre (B := T57.setTop (mkF m 81 #[.val (.long q1), .second, .val (.int p2), .val (.long q3), .second, .val (.long q4), .second, .val (.int p5), .val (.int p6), .val (.ref b22), .val (.ref b36), .val (.ref b_57), .unset] [])) (fun t k => XS.ifNo Xh67.here hx rfl (hb hby at_78) rfl ((if0 _ _).trans (teq hc78_68).2) k) ?_
      refine own_pre (B := T57.setTop (mkF m 82 #[.val (.long q1), .second, .val (.int p2), .val (.long q3), .second, .val (.long q4), .second, .val (.int p5), .val (.int p6), .val (.ref b22), .val (.ref b36), .val (.ref b_57), .unset] [(.int (1 : Int32))])) (fun t k => XS.iconst Xh67.here hx rfl (hb hby at_81) k) ?_
      refine own_pre (B := T57.setTop (mkF m 86 #[.val (.long q1), .second, .val (.int p2), .val (.long q3), .second, .val (.long q4), .second, .val (.int p5), .val (.int p6), .val (.ref b22), .val (.ref b36), .val (.ref b_57), .unset] [(.int (1 : Int32))])) (fun t k => XS.goto Xh67.here hx rfl (pc0 := 82) (pc' := 86) rfl (hb hby at_82) (by decide) (by decide) k) ?_
      refine own_pre (B := T57.setTop (mkF m 88 #[.val (.long q1), .second, .val (.int p2), .val (.long q3), .second, .val (.long q4), .second, .val (.int p5), .val (.int p6), .val (.ref b22), .val (.ref b36), .val (.ref b_57), .val (.int (1 : Int32))] [])) (fun t k => XS.istore Xh67.here hx rfl (hb hby at_86) rfl (l' := #[.val (.long q1), .second, .val (.int p2), .val (.long q3), .second, .val (.long q4), .second, .val (.int p5), .val (.int p6), .val (.ref b22), .val (.ref b36), .val (.ref b_57), .val (.int (1 : Int32))]) rfl k) ?_
      refine own_pre (B := T57.setTop (mkF m 90 #[.val (.long q1), .second, .val (.int p2), .val (.long q3), .second, .val (.long q4), .second, .val (.int p5), .val (.int p6), .val (.ref b22), .val (.ref b36), .val (.ref b_57), .val (.int (1 : Int32))] [(.ref b36)])) (fun t k => XS.aload Xh67.here hx rfl (hb hby at_88) rfl rfl k) ?_
      have c69 := (Fld.keep qF49 K57 nin0)
      have sz70 : n0 ≤ T57.heap.size := (Nat.le_trans sz56 K57.1)
      have c72 := (Exa.keep qE49 K57)
      obtain ⟨cq71, kq71, q71a, q71b, q71c⟩ := isOf hZ rfl c72
      obtain ⟨_, _, ⟨T71, L71, k71, n71⟩, -, X71, ⟨Lc71, hQ71, l71, y71, z71⟩, st71⟩ := Xh67.virtualBack hx (y := (⟨"com/example/internode_coordination/internodecoordination/member/LogEntry", "isNoOperation", "()Z"⟩ : MethodName)) (z := (⟨"com/example/internode_coordination/internodecoordination/member/LogEntry", "isNoOperation", "()Z"⟩ : MethodName)) hown (mvT hZ (hw _ (ow 211 rfl))) (mvT hZ (hw _ (ow 212 rfl))) (notFace_of_selects (args := #[]) (mvT hZ (hw _ (ow 214 rfl)))) (mvT hZ (hw _ (ow 214 rfl))) (mvT hZ (hw _ (ow 213 rfl))) (by decide) (backOf (W := 0) (rm38 l Z a0 hw [] b36 p2 T57.heap n0 sz70 c69) hZ (hw _ (ow 215 rfl)) (hw _ (ow 10 rfl)) (by decide) (by decide)) q71a q71c (g := (mkF m 90 #[.val (.long q1), .second, .val (.int p2), .val (.long q3), .second, .val (.long q4), .second, .val (.int p5), .val (.int p6), .val (.ref b22), .val (.ref b36), .val (.ref b_57), .val (.int (1 : Int32))] [(.ref b36)])) rfl (by rw [hml]; rfl) (Steps.refl _) (argsL := []) (rest := []) (lenOf pd_11 rfl) rfl (by show 2 * 0 + _ ≤ _; exact Nat.le_of_eq rfl) (hb hby at_90) (fun _ _ => ⟨rfl, rfl, (by decide : 37 + 0 ≤ _), (by decide : 3544 + 0 ≤ _)⟩)
      dsimp only [Pt.U, Pt.locs, Pt.cells, Pt.slots] at X71 l71 y71 z71 st71 hQ71
      subst l71 y71 z71
      obtain ⟨rfl, N71q, e71⟩ := hQ71
      have N71 := Fr.app Nh67 N71q
      obtain ⟨Lh73, Xh73, Nh73⟩ := own_hide X71 N71
      refine own_pre (B := T71.setTop (mkF m 93 #[.val (.long q1), .second, .val (.int p2), .val (.long q3), .second, .val (.long q4), .second, .val (.int p5), .val (.int p6), .val (.ref b22), .val (.ref b36), .val (.ref b_57), .val (.int (1 : Int32))] [(.int (own_f38 p2))])) (fun t k => st71.trans k) ?_
      refine own_pre (B := T71.setTop (mkF m 95 #[.val (.long q1), .second, .val (.int p2), .val (.long q3), .second, .val (.long q4), .second, .val (.int p5), .val (.int p6), .val (.ref b22), .val (.ref b36), .val (.ref b_57), .val (.int (1 : Int32))] [(.int (1 : Int32)), (.int (own_f38 p2))])) (fun t k => XS.iload Xh73.here hx rfl (hb hby at_93) rfl k) ?_
      refine own_pre (B := T71.setTop (mkF m 98 #[.val (.long q1), .second, .val (.int p2), .val (.long q3), .second, .val (.long q4), .second, .val (.int p5), .val (.int p6), .val (.ref b22), .val (.ref b36), .val (.ref b_57), .val (.int (1 : Int32))] [])) (fun t k => XS.icmpNo Xh73.here hx rfl (hb hby at_95) rfl (teq (by unfold own_f38; rw [if_pos hc78_68])).2 k) ?_
      refine own_pre (B := T71.setTop (mkF m 100 #[.val (.long q1), .second, .val (.int p2), .val (.long q3), .second, .val (.long q4), .second, .val (.int p5), .val (.int p6), .val (.ref b22), .val (.ref b36), .val (.ref b_57), .val (.int (1 : Int32))] [(.ref b_57)])) (fun t k => XS.aload Xh73.here hx rfl (hb hby at_98) rfl rfl k) ?_
      obtain ⟨cq74, kq74, q74a, q74b, q74c⟩ := isOf hZ e71 qE57
      obtain ⟨_, _, ⟨T74, L74, k74, n74⟩, -, X74, ⟨Lc74, hQ74, l74, y74, z74⟩, st74⟩ := Xh73.virtualBack hx (y := (⟨"com/example/internode_coordination/internodecoordination/member/LogEntry", "isNoOperation", "()Z"⟩ : MethodName)) (z := (⟨"com/example/internode_coordination/internodecoordination/member/LogEntry", "isNoOperation", "()Z"⟩ : MethodName)) hown (mvT hZ (hw _ (ow 211 rfl))) (mvT hZ (hw _ (ow 212 rfl))) (notFace_of_selects (args := #[]) (mvT hZ (hw _ (ow 214 rfl)))) (mvT hZ (hw _ (ow 214 rfl))) (mvT hZ (hw _ (ow 213 rfl))) (by decide) (backOf (W := 0) (rm38 l Z a0 hw [] b_57 (0 : Int32) T57.heap n0 sz70 qF57) hZ (hw _ (ow 215 rfl)) (hw _ (ow 10 rfl)) (by decide) (by decide)) q74a q74c (g := (mkF m 100 #[.val (.long q1), .second, .val (.int p2), .val (.long q3), .second, .val (.long q4), .second, .val (.int p5), .val (.int p6), .val (.ref b22), .val (.ref b36), .val (.ref b_57), .val (.int (1 : Int32))] [(.ref b_57)])) rfl (by rw [hml]; rfl) (Steps.refl _) (argsL := []) (rest := []) (lenOf pd_11 rfl) rfl (by show 2 * 0 + _ ≤ _; exact Nat.le_of_eq rfl) (hb hby at_100) (fun _ _ => ⟨rfl, e71, (by decide : 37 + 0 ≤ _), (by decide : 3544 + 0 ≤ _)⟩)
      dsimp only [Pt.U, Pt.locs, Pt.cells, Pt.slots] at X74 l74 y74 z74 st74 hQ74
      subst l74 y74 z74
      obtain ⟨rfl, N74q, e74⟩ := hQ74
      have N74 := Fr.app Nh73 N74q
      obtain ⟨Lh75, Xh75, Nh75⟩ := own_hide X74 N74
      refine own_pre (B := T74.setTop (mkF m 103 #[.val (.long q1), .second, .val (.int p2), .val (.long q3), .second, .val (.long q4), .second, .val (.int p5), .val (.int p6), .val (.ref b22), .val (.ref b36), .val (.ref b_57), .val (.int (1 : Int32))] [(.int (own_f38 (0 : Int32)))])) (fun t k => st74.trans k) ?_
      refine own_pre (B := T74.setTop (mkF m 106 #[.val (.long q1), .second, .val (.int p2), .val (.long q3), .second, .val (.long q4), .second, .val (.int p5), .val (.int p6), .val (.ref b22), .val (.ref b36), .val (.ref b_57), .val (.int (1 : Int32))] [])) (fun t k => XS.ifNo Xh75.here hx rfl (hb hby at_103) rfl ((if0 _ _).trans (feq (by decide)).1) k) ?_
      refine own_pre (B := T74.setTop (mkF m 107 #[.val (.long q1), .second, .val (.int p2), .val (.long q3), .second, .val (.long q4), .second, .val (.int p5), .val (.int p6), .val (.ref b22), .val (.ref b36), .val (.ref b_57), .val (.int (1 : Int32))] [(.int (1 : Int32))])) (fun t k => XS.iconst Xh75.here hx rfl (hb hby at_106) k) ?_
      refine own_pre (B := T74.setTop (mkF m 111 #[.val (.long q1), .second, .val (.int p2), .val (.long q3), .second, .val (.long q4), .second, .val (.int p5), .val (.int p6), .val (.ref b22), .val (.ref b36), .val (.ref b_57), .val (.int (1 : Int32))] [(.int (1 : Int32))])) (fun t k => XS.goto Xh75.here hx rfl (pc0 := 107) (pc' := 111) rfl (hb hby at_107) (by decide) (by decide) k) ?_
      have Cr76 := CHr.trans R66 (CHv.at Xh75 hZ (own_EW hw) R66.1)
      obtain ⟨fsr76, hrr76, hrunr76, hendedr76, hWr76⟩ := Xh75.leaveW hS57f (by rw [e74]; exact (Nat.le_refl _)) (v := some (.int (1 : Int32))) (fun h => by rw [Bd.returns] at h; cases h)
      refine ⟨_, _, (retN Xh75 hx (t := .boolean) Bd.returns (by simp) (hb hby at_111) hrr76), hrunr76, hendedr76, _, _, rfl, ?_, ?_, hWr76.1, hWr76.2.1, hWr76.2.2.1, hWr76.2.2.2.mono (by decide) (by decide)⟩
      · show Q0 Z q1 p2 q3 q4 p5 p6 cs h0 n0 _ T74.heap _
        rw [e74]
        exact ⟨rfl, Nh75⟩
      · show CHr Z _ s.vm s.heap T74.vm T74.heap
        rw [hh, e74]
        exact Cr76
    · refine own_pre (B := T57.setTop (mkF m 85 #[.val (.long q1), .second, .val (.int p2), .val (.long q3), .second, .val (.long q4), .second, .val (.int p5), .val (.int p6), .val (.ref b22), .val (.ref b36), .val (.ref b_57), .unset] [])) (fun t k => XS.ifYes Xh67.here hx rfl (pc0 := 78) (pc' := 85) rfl (hb hby at_78) rfl ((if0 _ _).trans (feq hc78_68).2) (by decide) (by decide) k) ?_
      refine own_pre (B := T57.setTop (mkF m 86 #[.val (.long q1), .second, .val (.int p2), .val (.long q3), .second, .val (.long q4), .second, .val (.int p5), .val (.int p6), .val (.ref b22), .val (.ref b36), .val (.ref b_57), .unset] [(.int (0 : Int32))])) (fun t k => XS.iconst Xh67.here hx rfl (hb hby at_85) k) ?_
      refine own_pre (B := T57.setTop (mkF m 88 #[.val (.long q1), .second, .val (.int p2), .val (.long q3), .second, .val (.long q4), .second, .val (.int p5), .val (.int p6), .val (.ref b22), .val (.ref b36), .val (.ref b_57), .val (.int (0 : Int32))] [])) (fun t k => XS.istore Xh67.here hx rfl (hb hby at_86) rfl (l' := #[.val (.long q1), .second, .val (.int p2), .val (.long q3), .second, .val (.long q4), .second, .val (.int p5), .val (.int p6), .val (.ref b22), .val (.ref b36), .val (.ref b_57), .val (.int (0 : Int32))]) rfl k) ?_
      refine own_pre (B := T57.setTop (mkF m 90 #[.val (.long q1), .second, .val (.int p2), .val (.long q3), .second, .val (.long q4), .second, .val (.int p5), .val (.int p6), .val (.ref b22), .val (.ref b36), .val (.ref b_57), .val (.int (0 : Int32))] [(.ref b36)])) (fun t k => XS.aload Xh67.here hx rfl (hb hby at_88) rfl rfl k) ?_
      have c77 := (Fld.keep qF49 K57 nin0)
      have sz78 : n0 ≤ T57.heap.size := (Nat.le_trans sz56 K57.1)
      have c80 := (Exa.keep qE49 K57)
      obtain ⟨cq79, kq79, q79a, q79b, q79c⟩ := isOf hZ rfl c80
      obtain ⟨_, _, ⟨T79, L79, k79, n79⟩, -, X79, ⟨Lc79, hQ79, l79, y79, z79⟩, st79⟩ := Xh67.virtualBack hx (y := (⟨"com/example/internode_coordination/internodecoordination/member/LogEntry", "isNoOperation", "()Z"⟩ : MethodName)) (z := (⟨"com/example/internode_coordination/internodecoordination/member/LogEntry", "isNoOperation", "()Z"⟩ : MethodName)) hown (mvT hZ (hw _ (ow 211 rfl))) (mvT hZ (hw _ (ow 212 rfl))) (notFace_of_selects (args := #[]) (mvT hZ (hw _ (ow 214 rfl)))) (mvT hZ (hw _ (ow 214 rfl))) (mvT hZ (hw _ (ow 213 rfl))) (by decide) (backOf (W := 0) (rm38 l Z a0 hw [] b36 p2 T57.heap n0 sz78 c77) hZ (hw _ (ow 215 rfl)) (hw _ (ow 10 rfl)) (by decide) (by decide)) q79a q79c (g := (mkF m 90 #[.val (.long q1), .second, .val (.int p2), .val (.long q3), .second, .val (.long q4), .second, .val (.int p5), .val (.int p6), .val (.ref b22), .val (.ref b36), .val (.ref b_57), .val (.int (0 : Int32))] [(.ref b36)])) rfl (by rw [hml]; rfl) (Steps.refl _) (argsL := []) (rest := []) (lenOf pd_11 rfl) rfl (by show 2 * 0 + _ ≤ _; exact Nat.le_of_eq rfl) (hb hby at_90) (fun _ _ => ⟨rfl, rfl, (by decide : 37 + 0 ≤ _), (by decide : 3544 + 0 ≤ _)⟩)
      dsimp only [Pt.U, Pt.locs, Pt.cells, Pt.slots] at X79 l79 y79 z79 st79 hQ79
      subst l79 y79 z79
      obtain ⟨rfl, N79q, e79⟩ := hQ79
      have N79 := Fr.app Nh67 N79q
      obtain ⟨Lh81, Xh81, Nh81⟩ := own_hide X79 N79
      refine own_pre (B := T79.setTop (mkF m 93 #[.val (.long q1), .second, .val (.int p2), .val (.long q3), .second, .val (.long q4), .second, .val (.int p5), .val (.int p6), .val (.ref b22), .val (.ref b36), .val (.ref b_57), .val (.int (0 : Int32))] [(.int (own_f38 p2))])) (fun t k => st79.trans k) ?_
      refine own_pre (B := T79.setTop (mkF m 95 #[.val (.long q1), .second, .val (.int p2), .val (.long q3), .second, .val (.long q4), .second, .val (.int p5), .val (.int p6), .val (.ref b22), .val (.ref b36), .val (.ref b_57), .val (.int (0 : Int32))] [(.int (0 : Int32)), (.int (own_f38 p2))])) (fun t k => XS.iload Xh81.here hx rfl (hb hby at_93) rfl k) ?_
      refine own_pre (B := T79.setTop (mkF m 98 #[.val (.long q1), .second, .val (.int p2), .val (.long q3), .second, .val (.long q4), .second, .val (.int p5), .val (.int p6), .val (.ref b22), .val (.ref b36), .val (.ref b_57), .val (.int (0 : Int32))] [])) (fun t k => XS.icmpNo Xh81.here hx rfl (hb hby at_95) rfl (teq (by unfold own_f38; rw [if_neg hc78_68])).2 k) ?_
      refine own_pre (B := T79.setTop (mkF m 100 #[.val (.long q1), .second, .val (.int p2), .val (.long q3), .second, .val (.long q4), .second, .val (.int p5), .val (.int p6), .val (.ref b22), .val (.ref b36), .val (.ref b_57), .val (.int (0 : Int32))] [(.ref b_57)])) (fun t k => XS.aload Xh81.here hx rfl (hb hby at_98) rfl rfl k) ?_
      obtain ⟨cq82, kq82, q82a, q82b, q82c⟩ := isOf hZ e79 qE57
      obtain ⟨_, _, ⟨T82, L82, k82, n82⟩, -, X82, ⟨Lc82, hQ82, l82, y82, z82⟩, st82⟩ := Xh81.virtualBack hx (y := (⟨"com/example/internode_coordination/internodecoordination/member/LogEntry", "isNoOperation", "()Z"⟩ : MethodName)) (z := (⟨"com/example/internode_coordination/internodecoordination/member/LogEntry", "isNoOperation", "()Z"⟩ : MethodName)) hown (mvT hZ (hw _ (ow 211 rfl))) (mvT hZ (hw _ (ow 212 rfl))) (notFace_of_selects (args := #[]) (mvT hZ (hw _ (ow 214 rfl)))) (mvT hZ (hw _ (ow 214 rfl))) (mvT hZ (hw _ (ow 213 rfl))) (by decide) (backOf (W := 0) (rm38 l Z a0 hw [] b_57 (0 : Int32) T57.heap n0 sz78 qF57) hZ (hw _ (ow 215 rfl)) (hw _ (ow 10 rfl)) (by decide) (by decide)) q82a q82c (g := (mkF m 100 #[.val (.long q1), .second, .val (.int p2), .val (.long q3), .second, .val (.long q4), .second, .val (.int p5), .val (.int p6), .val (.ref b22), .val (.ref b36), .val (.ref b_57), .val (.int (0 : Int32))] [(.ref b_57)])) rfl (by rw [hml]; rfl) (Steps.refl _) (argsL := []) (rest := []) (lenOf pd_11 rfl) rfl (by show 2 * 0 + _ ≤ _; exact Nat.le_of_eq rfl) (hb hby at_100) (fun _ _ => ⟨rfl, e79, (by decide : 37 + 0 ≤ _), (by decide : 3544 + 0 ≤ _)⟩)
      dsimp only [Pt.U, Pt.locs, Pt.cells, Pt.slots] at X82 l82 y82 z82 st82 hQ82
      subst l82 y82 z82
      obtain ⟨rfl, N82q, e82⟩ := hQ82
      have N82 := Fr.app Nh81 N82q
      obtain ⟨Lh83, Xh83, Nh83⟩ := own_hide X82 N82
      refine own_pre (B := T82.setTop (mkF m 103 #[.val (.long q1), .second, .val (.int p2), .val (.long q3), .second, .val (.long q4), .second, .val (.int p5), .val (.int p6), .val (.ref b22), .val (.ref b36), .val (.ref b_57), .val (.int (0 : Int32))] [(.int (own_f38 (0 : Int32)))])) (fun t k => st82.trans k) ?_
      refine own_pre (B := T82.setTop (mkF m 106 #[.val (.long q1), .second, .val (.int p2), .val (.long q3), .second, .val (.long q4), .second, .val (.int p5), .val (.int p6), .val (.ref b22), .val (.ref b36), .val (.ref b_57), .val (.int (0 : Int32))] [])) (fun t k => XS.ifNo Xh83.here hx rfl (hb hby at_103) rfl ((if0 _ _).trans (feq (by decide)).1) k) ?_
      refine own_pre (B := T82.setTop (mkF m 107 #[.val (.long q1), .second, .val (.int p2), .val (.long q3), .second, .val (.long q4), .second, .val (.int p5), .val (.int p6), .val (.ref b22), .val (.ref b36), .val (.ref b_57), .val (.int (0 : Int32))] [(.int (1 : Int32))])) (fun t k => XS.iconst Xh83.here hx rfl (hb hby at_106) k) ?_
      refine own_pre (B := T82.setTop (mkF m 111 #[.val (.long q1), .second, .val (.int p2), .val (.long q3), .second, .val (.long q4), .second, .val (.int p5), .val (.int p6), .val (.ref b22), .val (.ref b36), .val (.ref b_57), .val (.int (0 : Int32))] [(.int (1 : Int32))])) (fun t k => XS.goto Xh83.here hx rfl (pc0 := 107) (pc' := 111) rfl (hb hby at_107) (by decide) (by decide) k) ?_
      have Cr84 := CHr.trans R66 (CHv.at Xh83 hZ (own_EW hw) R66.1)
      obtain ⟨fsr84, hrr84, hrunr84, hendedr84, hWr84⟩ := Xh83.leaveW hS57f (by rw [e82]; exact (Nat.le_refl _)) (v := some (.int (1 : Int32))) (fun h => by rw [Bd.returns] at h; cases h)
      refine ⟨_, _, (retN Xh83 hx (t := .boolean) Bd.returns (by simp) (hb hby at_111) hrr84), hrunr84, hendedr84, _, _, rfl, ?_, ?_, hWr84.1, hWr84.2.1, hWr84.2.2.1, hWr84.2.2.2.mono (by decide) (by decide)⟩
      · show Q0 Z q1 p2 q3 q4 p5 p6 cs h0 n0 _ T82.heap _
        rw [e82]
        exact ⟨rfl, Nh83⟩
      · show CHr Z _ s.vm s.heap T82.vm T82.heap
        rw [hh, e82]
        exact Cr84
  · refine own_pre (B := s₁.setTop (mkF m 7 #[.val (.long q1), .second, .val (.int p2), .val (.long q3), .second, .val (.long q4), .second, .val (.int p5), .val (.int p6), .unset, .unset, .unset, .unset] [])) (fun t k => XS.ifNo X0.here hx rfl (hb hby at_4) rfl ((if0 _ _).trans (feq hc4_7).1) k) ?_
    have K85 : Keep h0 h0 [] := (Keep.refl h0 [])
    obtain ⟨a86, T86, h86, kk86, b86, k86, X86, e86, E86, hS86, hk86, hZ, hown, qE86, qC86, qV86, qA86, la86, lb86, Rl86, Li86, ns86, st86⟩ := ldcCH X0 hx hZ hown (hw _ (ow 0 rfl)) (own_wS hw) e0 hS0 hk0 (own_EW hw) (by decide) R0.1 (vs := [(.int (78 : Int32)), (.int (79 : Int32)), (.int (79 : Int32)), (.int (80 : Int32))]) (z := (4 : Int32)) ⟨by decide, by decide⟩ (by decide) (by decide) (g := (mkF m 7 #[.val (.long q1), .second, .val (.int p2), .val (.long q3), .second, .val (.long q4), .second, .val (.int p5), .val (.int p6), .unset, .unset, .unset, .unset] [])) rfl (hb hby at_7) (n := 16) (by decide) (by decide) (by decide) (by decide)
    have R86 := CHr.trans R0 Rl86
    refine own_pre (B := T86.setTop (mkF m 9 #[.val (.long q1), .second, .val (.int p2), .val (.long q3), .second, .val (.long q4), .second, .val (.int p5), .val (.int p6), .unset, .unset, .unset, .unset] [(.ref a86)])) (fun t k => st86 t k) ?_
    refine own_pre (B := T86.setTop (mkF m 11 #[.val (.long q1), .second, .val (.int p2), .val (.long q3), .second, .val (.long q4), .second, .val (.int p5), .val (.int p6), .val (.ref a86), .unset, .unset, .unset] [])) (fun t k => XS.astore X86.here hx rfl (hb hby at_9) rfl rfl (l' := #[.val (.long q1), .second, .val (.int p2), .val (.long q3), .second, .val (.long q4), .second, .val (.int p5), .val (.int p6), .val (.ref a86), .unset, .unset, .unset]) rfl k) ?_
    refine own_pre (B := T86.setTop (mkF m 55 #[.val (.long q1), .second, .val (.int p2), .val (.long q3), .second, .val (.long q4), .second, .val (.int p5), .val (.int p6), .val (.ref a86), .unset, .unset, .unset] [])) (fun t k => XS.goto X86.here hx rfl (pc0 := 11) (pc' := 55) rfl (hb hby at_11) (by decide) (by decide) k) ?_
    have K87 : Keep h0 h86 [] := (Keep.ext K85 E86)
    obtain ⟨T88, h88, X88, e88, E88, A88, D88, -, st88⟩ := newO X86 hx hZ hown (hw _ (ow 8 rfl)) (hw _ (ow 9 rfl)) (hw _ (ow 10 rfl)) e86 (g := (mkF m 55 #[.val (.long q1), .second, .val (.int p2), .val (.long q3), .second, .val (.long q4), .second, .val (.int p5), .val (.int p6), .val (.ref a86), .unset, .unset, .unset] [])) rfl (hb hby at_55) (by decide) (by decide)
    have sz89 : n0 ≤ h86.size := (Nat.le_trans Z0 E86.1)
    obtain ⟨b88, g88⟩ : ∃ z, z = h86.size := ⟨_, rfl⟩
    rw [← g88] at A88 D88 st88
    have g_b88 : n0 ≤ b88 := Nat.le_trans sz89 (Nat.le_of_eq g88.symm)
    have s_b88 : h0.size ≤ b88 := Nat.le_trans K87.1 (Nat.le_of_eq g88.symm)
    have ne90 : a86 ≠ b88 := Nat.ne_of_lt (Nat.lt_of_lt_of_le (Exa.lt qE86) (Nat.le_of_eq g88.symm))
    have ne91 : b86 ≠ b88 := Nat.ne_of_lt (Nat.lt_of_lt_of_le (Arv.lt qA86) (Nat.le_of_eq g88.symm))
    have S92_b88 := Safe.ext E88 R86.1 (Safe.new (Nat.le_of_eq g88.symm))
    have R92 := CHr.trans R86 (CHr.ext E88 R86.1)
    have F_term_b88 : Fld Z h88 b88 "com/example/internode_coordination/internodecoordination/member/LogEntry" "term" "J" (.long (0 : Int64)) := D88 (Or.inr (hw _ (ow 194 rfl))) (ty := .long) (by decide)
    have F_origin_b88 : Fld Z h88 b88 "com/example/internode_coordination/internodecoordination/member/LogEntry" "origin" "I" (.int (0 : Int32)) := D88 (Or.inr (hw _ (ow 196 rfl))) (ty := .int) (by decide)
    have F_boot_b88 : Fld Z h88 b88 "com/example/internode_coordination/internodecoordination/member/LogEntry" "boot" "J" (.long (0 : Int64)) := D88 (Or.inr (hw _ (ow 198 rfl))) (ty := .long) (by decide)
    have F_sequence_b88 : Fld Z h88 b88 "com/example/internode_coordination/internodecoordination/member/LogEntry" "sequence" "J" (.long (0 : Int64)) := D88 (Or.inr (hw _ (ow 200 rfl))) (ty := .long) (by decide)
    have F_command_b88 : Fld Z h88 b88 "com/example/internode_coordination/internodecoordination/member/LogEntry" "command" "Ljava/lang/String;" .null := D88 (Or.inr (hw _ (ow 202 rfl))) (ty := (.object "java/lang/String")) (by decide)
    have F_text_b88 : Fld Z h88 b88 "com/example/internode_coordination/internodecoordination/member/LogEntry" "text" "Ljava/lang/String;" .null := D88 (Or.inr (hw _ (ow 204 rfl))) (ty := (.object "java/lang/String")) (by decide)
    refine own_pre (B := T88.setTop (mkF m 58 #[.val (.long q1), .second, .val (.int p2), .val (.long q3), .second, .val (.long q4), .second, .val (.int p5), .val (.int p6), .val (.ref a86), .unset, .unset, .unset] [(.ref b88)])) (fun t k => st88 t k) ?_
    refine own_pre (B := T88.setTop (mkF m 59 #[.val (.long q1), .second, .val (.int p2), .val (.long q3), .second, .val (.long q4), .second, .val (.int p5), .val (.int p6), .val (.ref a86), .unset, .unset, .unset] [(.ref b88), (.ref b88)])) (fun t k => XS.dup X88.here hx rfl (hb hby at_58) rfl rfl k) ?_
    refine own_pre (B := T88.setTop (mkF m 60 #[.val (.long q1), .second, .val (.int p2), .val (.long q3), .second, .val (.long q4), .second, .val (.int p5), .val (.int p6), .val (.ref a86), .unset, .unset, .unset] [(.long q1), (.ref b88), (.ref b88)])) (fun t k => XS.lloadN X88.here hx rfl (hb hby at_59) rfl k) ?_
    refine own_pre (B := T88.setTop (mkF m 61 #[.val (.long q1), .second, .val (.int p2), .val (.long q3), .second, .val (.long q4), .second, .val (.int p5), .val (.int p6), .val (.ref a86), .unset, .unset, .unset] [(.int p2), (.long q1), (.ref b88), (.ref b88)])) (fun t k => XS.iloadN X88.here hx rfl (hb hby at_60) rfl k) ?_
    refine own_pre (B := T88.setTop (mkF m 62 #[.val (.long q1), .second, .val (.int p2), .val (.long q3), .second, .val (.long q4), .second, .val (.int p5), .val (.int p6), .val (.ref a86), .unset, .unset, .unset] [(.long q3), (.int p2), (.long q1), (.ref b88), (.ref b88)])) (fun t k => XS.lloadN X88.here hx rfl (hb hby at_61) rfl k) ?_
    refine own_pre (B := T88.setTop (mkF m 64 #[.val (.long q1), .second, .val (.int p2), .val (.long q3), .second, .val (.long q4), .second, .val (.int p5), .val (.int p6), .val (.ref a86), .unset, .unset, .unset] [(.long q4), (.long q3), (.int p2), (.long q1), (.ref b88), (.ref b88)])) (fun t k => XS.lload X88.here hx rfl (hb hby at_62) rfl k) ?_
    refine own_pre (B := T88.setTop (mkF m 66 #[.val (.long q1), .second, .val (.int p2), .val (.long q3), .second, .val (.long q4), .second, .val (.int p5), .val (.int p6), .val (.ref a86), .unset, .unset, .unset] [(.ref a86), (.long q4), (.long q3), (.int p2), (.long q1), (.ref b88), (.ref b88)])) (fun t k => XS.aload X88.here hx rfl (hb hby at_64) rfl rfl k) ?_
    have O93 := (Old.ext (Old.ext O0 E86) E88)
    have c94 := (qE86.ext E88)
    have c95 := (qC86.ext E88)
    have c96 := (qV86.ext E88)
    have c97 := (Arv.ext qA86 E88)
    have sz98 : n0 ≤ h88.size := (Nat.le_trans sz89 E88.1)
    obtain ⟨_, _, ⟨T99, L99, k99, n99⟩, -, X99, hS99, hgr99, ⟨Lc99, hQ99, l99, y99, z99, hR99⟩, st99⟩ := X88.specialBackS hx (y := (⟨"com/example/internode_coordination/internodecoordination/member/LogEntry", "<init>", "(JIJJLjava/lang/String;)V"⟩ : MethodName)) rfl hown (mvT hZ (hw _ (ow 11 rfl))) (mvT hZ (hw _ (ow 12 rfl))) (mvT hZ (hw _ (ow 13 rfl))) (by decide) (backOfSH (W := 1) (rm1 l Z a0 hw [] b88 q1 p2 q3 q4 a86 cs b86 k86 [(.int (78 : Int32)), (.int (79 : Int32)), (.int (79 : Int32)), (.int (80 : Int32))] (4 : Int32) (.long (0 : Int64)) (.int (0 : Int32)) (.long (0 : Int64)) (.long (0 : Int64)) .null .null h88 n0 sz98 A88 O93 SCS hcs c94 c95 c96 c97 TB own_M4 F_term_b88 F_origin_b88 F_boot_b88 F_sequence_b88 F_command_b88 F_text_b88 g_b88) hZ (hw _ (ow 13 rfl)) (hw _ (ow 10 rfl)) (by decide) (by decide) (own_EW hw) R92.1) (g := (mkF m 66 #[.val (.long q1), .second, .val (.int p2), .val (.long q3), .second, .val (.long q4), .second, .val (.int p5), .val (.int p6), .val (.ref a86), .unset, .unset, .unset] [(.ref a86), (.long q4), (.long q3), (.int p2), (.long q1), (.ref b88), (.ref b88)])) rfl (by rw [hml]; rfl) (Steps.refl _) (a := b88) (argsL := [(.long q1), (.int p2), (.long q3), (.long q4), (.ref a86)]) (rest := [(.ref b88)]) (lenOf pd_29 rfl) rfl (by show 2 * 0 + _ ≤ _; exact Nat.le_of_eq rfl) (hb hby at_66) (fun _ _ => ⟨rfl, e88, (by decide : 3 + 15 ≤ _), (by decide : 26 + 1752 ≤ _)⟩)
    dsimp only [Pt.U, Pt.locs, Pt.cells, Pt.slots] at X99 l99 y99 z99 st99 hQ99 hS99 hgr99 hR99
    have hS99f := foldS hS86 (by rw [e88]; exact (Nat.le_trans hk86 E88.1)) hS99 hgr99
    have hZ : Z.Warmed39 (s.setVm T99.vm).vm := State.Warmed39.trans (t := s.setVm _) hZ hS99.1
    have hown : (s.setVm T99.vm).vm.findClass "com/example/internode_coordination/internodecoordination/member/LogEntryIsNoOperationPinLaw" = some m.cls := by rw [show (s.setVm T99.vm).vm = T99.vm from rfl, hS99.1.alike.findClass]; exact hown
    subst l99 y99 z99
    obtain ⟨rfl, N99q, K99, qE99, qF99⟩ := hQ99
    have N99 := Fr.app N0 N99q
    have K100 : Keep h0 h88 [] := (Keep.ext K87 E88)
    have S101_b88 := CHr.safe hR99 (Exa.lt A88) S92_b88
    have R101 := CHr.trans R92 hR99
    have X99 := own_re X99
    obtain ⟨Lh102, Xh102, Nh102⟩ := own_hide X99 N99
    refine own_pre (B := T99.setTop (mkF m 69 #[.val (.long q1), .second, .val (.int p2), .val (.long q3), .second, .val (.long q4), .second, .val (.int p5), .val (.int p6), .val (.ref a86), .unset, .unset, .unset] [(.ref b88)])) (fun t k => st99.trans k) ?_
    refine own_pre (B := T99.setTop (mkF m 71 #[.val (.long q1), .second, .val (.int p2), .val (.long q3), .second, .val (.long q4), .second, .val (.int p5), .val (.int p6), .val (.ref a86), .val (.ref b88), .unset, .unset] [])) (fun t k => XS.astore Xh102.here hx rfl (hb hby at_69) rfl rfl (l' := #[.val (.long q1), .second, .val (.int p2), .val (.long q3), .second, .val (.long q4), .second, .val (.int p5), .val (.int p6), .val (.ref a86), .val (.ref b88), .unset, .unset]) rfl k) ?_
    refine own_pre (B := T99.setTop (mkF m 72 #[.val (.long q1), .second, .val (.int p2), .val (.long q3), .second, .val (.long q4), .second, .val (.int p5), .val (.int p6), .val (.ref a86), .val (.ref b88), .unset, .unset] [(.long q1)])) (fun t k => XS.lloadN Xh102.here hx rfl (hb hby at_71) rfl k) ?_
    have O103 := (Old.keep O93 K99 (allS (P := fun x => n0 ≤ x) g_b88 all0))
    have sz104 : n0 ≤ T99.heap.size := (Nat.le_trans sz98 K99.1)
    obtain ⟨_, _, ⟨T105, L105, k105, n105⟩, -, X105, hS105, hgr105, ⟨Lc105, hQ105, l105, y105, z105, hR105⟩, st105⟩ := callSS Xh102 hx (y := (⟨"com/example/internode_coordination/internodecoordination/member/LogEntry", "noOperation", "(J)Lcom/example/internode_coordination/internodecoordination/member/LogEntry;"⟩ : MethodName)) hown (mvT hZ (hw _ (ow 205 rfl))) (mvT hZ (hw _ (ow 206 rfl))) (mvT hZ (hw _ (ow 10 rfl))) (mvT hZ (hw _ (ow 207 rfl))) (by decide) (backOfSH (W := 0) (rm37 l Z a0 hw [] q1 cs T99.heap n0 sz104 O103 SCS hcs TB) hZ (hw _ (ow 207 rfl)) (hw _ (ow 10 rfl)) (by decide) (by decide) (own_EW hw) R101.1) (g := (mkF m 72 #[.val (.long q1), .second, .val (.int p2), .val (.long q3), .second, .val (.long q4), .second, .val (.int p5), .val (.int p6), .val (.ref a86), .val (.ref b88), .unset, .unset] [(.long q1)])) rfl (by rw [hml]; rfl) (argsL := [(.long q1)]) (rest := []) (lenOf pd_31 rfl) rfl (by show 2 * 0 + _ ≤ _; exact Nat.le_of_eq rfl) (hb hby at_72) (fun _ _ => ⟨rfl, rfl, (by decide : 18 + 18 ≤ _), (by decide : 1778 + 1778 ≤ _)⟩)
    dsimp only [Pt.U, Pt.locs, Pt.cells, Pt.slots] at X105 l105 y105 z105 st105 hQ105 hS105 hgr105 hR105
    have hS105f := foldS hS99f (Nat.le_refl _) hS105 hgr105
    have hZ : Z.Warmed39 (s.setVm T105.vm).vm := State.Warmed39.trans (t := s.setVm _) hZ hS105.1
    have hown : (s.setVm T105.vm).vm.findClass "com/example/internode_coordination/internodecoordination/member/LogEntryIsNoOperationPinLaw" = some m.cls := by rw [show (s.setVm T105.vm).vm = T105.vm from rfl, hS105.1.alike.findClass]; exact hown
    subst l105 y105 z105
    obtain ⟨b_105, rfl, N105q, K105, qg105, qs105, qE105, qF105⟩ := hQ105
    have N105 := Fr.app Nh102 N105q
    have K106 : Keep h0 T99.heap [] := (Keep.trans K100 K99 (allS (P := fun x => x ∈ [] ∨ h0.size ≤ x) (Or.inr s_b88) all0))
    have c107 := (Exa.keep c94 K99)
    have ne108 : a86 ≠ b_105 := Nat.ne_of_lt (Nat.lt_of_lt_of_le (Exa.lt c107) qs105)
    have ne109 : b88 ≠ b_105 := Nat.ne_of_lt (Nat.lt_of_lt_of_le (Exa.lt qE99) qs105)
    have c110 := (Arv.keep c97 K99 (ninS ne91 nin0))
    have ne111 : b86 ≠ b_105 := Nat.ne_of_lt (Nat.lt_of_lt_of_le (Arv.lt c110) qs105)
    have s_b_105 : h0.size ≤ b_105 := Nat.le_trans K106.1 qs105
    have S112_b88 := CHr.safe hR105 (Exa.lt qE99) S101_b88
    have R112 := CHr.trans R101 hR105
    have X105 := own_re X105
    obtain ⟨Lh113, Xh113, Nh113⟩ := own_hide X105 N105
    refine own_pre (B := T105.setTop (mkF m 75 #[.val (.long q1), .second, .val (.int p2), .val (.long q3), .second, .val (.long q4), .second, .val (.int p5), .val (.int p6), .val (.ref a86), .val (.ref b88), .unset, .unset] [(.ref b_105)])) (fun t k => st105.trans k) ?_
    refine own_pre (B := T105.setTop (mkF m 77 #[.val (.long q1), .second, .val (.int p2), .val (.long q3), .second, .val (.long q4), .second, .val (.int p5), .val (.int p6), .val (.ref a86), .val (.ref b88), .val (.ref b_105), .unset] [])) (fun t k => XS.astore Xh113.here hx rfl (hb hby at_75) rfl rfl (l' := #[.val (.long q1), .second, .val (.int p2), .val (.long q3), .second, .val (.long q4), .second, .val (.int p5), .val (.int p6), .val (.ref a86), .val (.ref b88), .val (.ref b_105), .unset]) rfl k) ?_
    refine own_pre (B := T105.setTop (mkF m 78 #[.val (.long q1), .second, .val (.int p2), .val (.long q3), .second, .val (.long q4), .second, .val (.int p5), .val (.int p6), .val (.ref a86), .val (.ref b88), .val (.ref b_105), .unset] [(.int p2)])) (fun t k => XS.iloadN Xh113.here hx rfl (hb hby at_77) rfl k) ?_
    by_cases hc78_114 : p2 = (0 : Int32)
    · refine own_pre (B := T105.setTop (mkF m 81 #[.val (.long q1), .second, .val (.int p2), .val (.long q3), .second, .val (.long q4), .second, .val (.int p5), .val (.int p6), .val (.ref a86), .val (.ref b88), .val (.ref b_105), .unset] [])) (fun t k => XS.ifNo Xh113.here hx rfl (hb hby at_78) rfl ((if0 _ _).trans (teq hc78_114).2) k) ?_
      refine own_pre (B := T105.setTop (mkF m 82 #[.val (.long q1), .second, .val (.int p2), .val (.long q3), .second, .val (.long q4), .second, .val (.int p5), .val (.int p6), .val (.ref a86), .val (.ref b88), .val (.ref b_105), .unset] [(.int (1 : Int32))])) (fun t k => XS.iconst Xh113.here hx rfl (hb hby at_81) k) ?_
      refine own_pre (B := T105.setTop (mkF m 86 #[.val (.long q1), .second, .val (.int p2), .val (.long q3), .second, .val (.long q4), .second, .val (.int p5), .val (.int p6), .val (.ref a86), .val (.ref b88), .val (.ref b_105), .unset] [(.int (1 : Int32))])) (fun t k => XS.goto Xh113.here hx rfl (pc0 := 82) (pc' := 86) rfl (hb hby at_82) (by decide) (by decide) k) ?_
      refine own_pre (B := T105.setTop (mkF m 88 #[.val (.long q1), .second, .val (.int p2), .val (.long q3), .second, .val (.long q4), .second, .val (.int p5), .val (.int p6), .val (.ref a86), .val (.ref b88), .val (.ref b_105), .val (.int (1 : Int32))] [])) (fun t k => XS.istore Xh113.here hx rfl (hb hby at_86) rfl (l' := #[.val (.long q1), .second, .val (.int p2), .val (.long q3), .second, .val (.long q4), .second, .val (.int p5), .val (.int p6), .val (.ref a86), .val (.ref b88), .val (.ref b_105), .val (.int (1 : Int32))]) rfl k) ?_
      refine own_pre (B := T105.setTop (mkF m 90 #[.val (.long q1), .second, .val (.int p2), .val (.long q3), .second, .val (.long q4), .second, .val (.int p5), .val (.int p6), .val (.ref a86), .val (.ref b88), .val (.ref b_105), .val (.int (1 : Int32))] [(.ref b88)])) (fun t k => XS.aload Xh113.here hx rfl (hb hby at_88) rfl rfl k) ?_
      have c115 := (Fld.keep qF99 K105 nin0)
      have sz116 : n0 ≤ T105.heap.size := (Nat.le_trans sz104 K105.1)
      have c118 := (Exa.keep qE99 K105)
      obtain ⟨cq117, kq117, q117a, q117b, q117c⟩ := isOf hZ rfl c118
      obtain ⟨_, _, ⟨T117, L117, k117, n117⟩, -, X117, ⟨Lc117, hQ117, l117, y117, z117⟩, st117⟩ := Xh113.virtualBack hx (y := (⟨"com/example/internode_coordination/internodecoordination/member/LogEntry", "isNoOperation", "()Z"⟩ : MethodName)) (z := (⟨"com/example/internode_coordination/internodecoordination/member/LogEntry", "isNoOperation", "()Z"⟩ : MethodName)) hown (mvT hZ (hw _ (ow 211 rfl))) (mvT hZ (hw _ (ow 212 rfl))) (notFace_of_selects (args := #[]) (mvT hZ (hw _ (ow 214 rfl)))) (mvT hZ (hw _ (ow 214 rfl))) (mvT hZ (hw _ (ow 213 rfl))) (by decide) (backOf (W := 0) (rm38 l Z a0 hw [] b88 p2 T105.heap n0 sz116 c115) hZ (hw _ (ow 215 rfl)) (hw _ (ow 10 rfl)) (by decide) (by decide)) q117a q117c (g := (mkF m 90 #[.val (.long q1), .second, .val (.int p2), .val (.long q3), .second, .val (.long q4), .second, .val (.int p5), .val (.int p6), .val (.ref a86), .val (.ref b88), .val (.ref b_105), .val (.int (1 : Int32))] [(.ref b88)])) rfl (by rw [hml]; rfl) (Steps.refl _) (argsL := []) (rest := []) (lenOf pd_11 rfl) rfl (by show 2 * 0 + _ ≤ _; exact Nat.le_of_eq rfl) (hb hby at_90) (fun _ _ => ⟨rfl, rfl, (by decide : 36 + 0 ≤ _), (by decide : 3556 + 0 ≤ _)⟩)
      dsimp only [Pt.U, Pt.locs, Pt.cells, Pt.slots] at X117 l117 y117 z117 st117 hQ117
      subst l117 y117 z117
      obtain ⟨rfl, N117q, e117⟩ := hQ117
      have N117 := Fr.app Nh113 N117q
      obtain ⟨Lh119, Xh119, Nh119⟩ := own_hide X117 N117
      refine own_pre (B := T117.setTop (mkF m 93 #[.val (.long q1), .second, .val (.int p2), .val (.long q3), .second, .val (.long q4), .second, .val (.int p5), .val (.int p6), .val (.ref a86), .val (.ref b88), .val (.ref b_105), .val (.int (1 : Int32))] [(.int (own_f38 p2))])) (fun t k => st117.trans k) ?_
      refine own_pre (B := T117.setTop (mkF m 95 #[.val (.long q1), .second, .val (.int p2), .val (.long q3), .second, .val (.long q4), .second, .val (.int p5), .val (.int p6), .val (.ref a86), .val (.ref b88), .val (.ref b_105), .val (.int (1 : Int32))] [(.int (1 : Int32)), (.int (own_f38 p2))])) (fun t k => XS.iload Xh119.here hx rfl (hb hby at_93) rfl k) ?_
      refine own_pre (B := T117.setTop (mkF m 98 #[.val (.long q1), .second, .val (.int p2), .val (.long q3), .second, .val (.long q4), .second, .val (.int p5), .val (.int p6), .val (.ref a86), .val (.ref b88), .val (.ref b_105), .val (.int (1 : Int32))] [])) (fun t k => XS.icmpNo Xh119.here hx rfl (hb hby at_95) rfl (teq (by unfold own_f38; rw [if_pos hc78_114])).2 k) ?_
      refine own_pre (B := T117.setTop (mkF m 100 #[.val (.long q1), .second, .val (.int p2), .val (.long q3), .second, .val (.long q4), .second, .val (.int p5), .val (.int p6), .val (.ref a86), .val (.ref b88), .val (.ref b_105), .val (.int (1 : Int32))] [(.ref b_105)])) (fun t k => XS.aload Xh119.here hx rfl (hb hby at_98) rfl rfl k) ?_
      obtain ⟨cq120, kq120, q120a, q120b, q120c⟩ := isOf hZ e117 qE105
      obtain ⟨_, _, ⟨T120, L120, k120, n120⟩, -, X120, ⟨Lc120, hQ120, l120, y120, z120⟩, st120⟩ := Xh119.virtualBack hx (y := (⟨"com/example/internode_coordination/internodecoordination/member/LogEntry", "isNoOperation", "()Z"⟩ : MethodName)) (z := (⟨"com/example/internode_coordination/internodecoordination/member/LogEntry", "isNoOperation", "()Z"⟩ : MethodName)) hown (mvT hZ (hw _ (ow 211 rfl))) (mvT hZ (hw _ (ow 212 rfl))) (notFace_of_selects (args := #[]) (mvT hZ (hw _ (ow 214 rfl)))) (mvT hZ (hw _ (ow 214 rfl))) (mvT hZ (hw _ (ow 213 rfl))) (by decide) (backOf (W := 0) (rm38 l Z a0 hw [] b_105 (0 : Int32) T105.heap n0 sz116 qF105) hZ (hw _ (ow 215 rfl)) (hw _ (ow 10 rfl)) (by decide) (by decide)) q120a q120c (g := (mkF m 100 #[.val (.long q1), .second, .val (.int p2), .val (.long q3), .second, .val (.long q4), .second, .val (.int p5), .val (.int p6), .val (.ref a86), .val (.ref b88), .val (.ref b_105), .val (.int (1 : Int32))] [(.ref b_105)])) rfl (by rw [hml]; rfl) (Steps.refl _) (argsL := []) (rest := []) (lenOf pd_11 rfl) rfl (by show 2 * 0 + _ ≤ _; exact Nat.le_of_eq rfl) (hb hby at_100) (fun _ _ => ⟨rfl, e117, (by decide : 36 + 0 ≤ _), (by decide : 3556 + 0 ≤ _)⟩)
      dsimp only [Pt.U, Pt.locs, Pt.cells, Pt.slots] at X120 l120 y120 z120 st120 hQ120
      subst l120 y120 z120
      obtain ⟨rfl, N120q, e120⟩ := hQ120
      have N120 := Fr.app Nh119 N120q
      obtain ⟨Lh121, Xh121, Nh121⟩ := own_hide X120 N120
      refine own_pre (B := T120.setTop (mkF m 103 #[.val (.long q1), .second, .val (.int p2), .val (.long q3), .second, .val (.long q4), .second, .val (.int p5), .val (.int p6), .val (.ref a86), .val (.ref b88), .val (.ref b_105), .val (.int (1 : Int32))] [(.int (own_f38 (0 : Int32)))])) (fun t k => st120.trans k) ?_
      refine own_pre (B := T120.setTop (mkF m 106 #[.val (.long q1), .second, .val (.int p2), .val (.long q3), .second, .val (.long q4), .second, .val (.int p5), .val (.int p6), .val (.ref a86), .val (.ref b88), .val (.ref b_105), .val (.int (1 : Int32))] [])) (fun t k => XS.ifNo Xh121.here hx rfl (hb hby at_103) rfl ((if0 _ _).trans (feq (by decide)).1) k) ?_
      refine own_pre (B := T120.setTop (mkF m 107 #[.val (.long q1), .second, .val (.int p2), .val (.long q3), .second, .val (.long q4), .second, .val (.int p5), .val (.int p6), .val (.ref a86), .val (.ref b88), .val (.ref b_105), .val (.int (1 : Int32))] [(.int (1 : Int32))])) (fun t k => XS.iconst Xh121.here hx rfl (hb hby at_106) k) ?_
      refine own_pre (B := T120.setTop (mkF m 111 #[.val (.long q1), .second, .val (.int p2), .val (.long q3), .second, .val (.long q4), .second, .val (.int p5), .val (.int p6), .val (.ref a86), .val (.ref b88), .val (.ref b_105), .val (.int (1 : Int32))] [(.int (1 : Int32))])) (fun t k => XS.goto Xh121.here hx rfl (pc0 := 107) (pc' := 111) rfl (hb hby at_107) (by decide) (by decide) k) ?_
      have Cr122 := CHr.trans R112 (CHv.at Xh121 hZ (own_EW hw) R112.1)
      obtain ⟨fsr122, hrr122, hrunr122, hendedr122, hWr122⟩ := Xh121.leaveW hS105f (by rw [e120]; exact (Nat.le_refl _)) (v := some (.int (1 : Int32))) (fun h => by rw [Bd.returns] at h; cases h)
      refine ⟨_, _, (retN Xh121 hx (t := .boolean) Bd.returns (by simp) (hb hby at_111) hrr122), hrunr122, hendedr122, _, _, rfl, ?_, ?_, hWr122.1, hWr122.2.1, hWr122.2.2.1, hWr122.2.2.2.mono (by decide) (by decide)⟩
      · show Q0 Z q1 p2 q3 q4 p5 p6 cs h0 n0 _ T120.heap _
        rw [e120]
        exact ⟨rfl, Nh121⟩
      · show CHr Z _ s.vm s.heap T120.vm T120.heap
        rw [hh, e120]
        exact Cr122
    · refine own_pre (B := T105.setTop (mkF m 85 #[.val (.long q1), .second, .val (.int p2), .val (.long q3), .second, .val (.long q4), .second, .val (.int p5), .val (.int p6), .val (.ref a86), .val (.ref b88), .val (.ref b_105), .unset] [])) (fun t k => XS.ifYes Xh113.here hx rfl (pc0 := 78) (pc' := 85) rfl (hb hby at_78) rfl ((if0 _ _).trans (feq hc78_114).2) (by decide) (by decide) k) ?_
      refine own_pre (B := T105.setTop (mkF m 86 #[.val (.long q1), .second, .val (.int p2), .val (.long q3), .second, .val (.long q4), .second, .val (.int p5), .val (.int p6), .val (.ref a86), .val (.ref b88), .val (.ref b_105), .unset] [(.int (0 : Int32))])) (fun t k => XS.iconst Xh113.here hx rfl (hb hby at_85) k) ?_
      refine own_pre (B := T105.setTop (mkF m 88 #[.val (.long q1), .second, .val (.int p2), .val (.long q3), .second, .val (.long q4), .second, .val (.int p5), .val (.int p6), .val (.ref a86), .val (.ref b88), .val (.ref b_105), .val (.int (0 : Int32))] [])) (fun t k => XS.istore Xh113.here hx rfl (hb hby at_86) rfl (l' := #[.val (.long q1), .second, .val (.int p2), .val (.long q3), .second, .val (.long q4), .second, .val (.int p5), .val (.int p6), .val (.ref a86), .val (.ref b88), .val (.ref b_105), .val (.int (0 : Int32))]) rfl k) ?_
      refine own_pre (B := T105.setTop (mkF m 90 #[.val (.long q1), .second, .val (.int p2), .val (.long q3), .second, .val (.long q4), .second, .val (.int p5), .val (.int p6), .val (.ref a86), .val (.ref b88), .val (.ref b_105), .val (.int (0 : Int32))] [(.ref b88)])) (fun t k => XS.aload Xh113.here hx rfl (hb hby at_88) rfl rfl k) ?_
      have c123 := (Fld.keep qF99 K105 nin0)
      have sz124 : n0 ≤ T105.heap.size := (Nat.le_trans sz104 K105.1)
      have c126 := (Exa.keep qE99 K105)
      obtain ⟨cq125, kq125, q125a, q125b, q125c⟩ := isOf hZ rfl c126
      obtain ⟨_, _, ⟨T125, L125, k125, n125⟩, -, X125, ⟨Lc125, hQ125, l125, y125, z125⟩, st125⟩ := Xh113.virtualBack hx (y := (⟨"com/example/internode_coordination/internodecoordination/member/LogEntry", "isNoOperation", "()Z"⟩ : MethodName)) (z := (⟨"com/example/internode_coordination/internodecoordination/member/LogEntry", "isNoOperation", "()Z"⟩ : MethodName)) hown (mvT hZ (hw _ (ow 211 rfl))) (mvT hZ (hw _ (ow 212 rfl))) (notFace_of_selects (args := #[]) (mvT hZ (hw _ (ow 214 rfl)))) (mvT hZ (hw _ (ow 214 rfl))) (mvT hZ (hw _ (ow 213 rfl))) (by decide) (backOf (W := 0) (rm38 l Z a0 hw [] b88 p2 T105.heap n0 sz124 c123) hZ (hw _ (ow 215 rfl)) (hw _ (ow 10 rfl)) (by decide) (by decide)) q125a q125c (g := (mkF m 90 #[.val (.long q1), .second, .val (.int p2), .val (.long q3), .second, .val (.long q4), .second, .val (.int p5), .val (.int p6), .val (.ref a86), .val (.ref b88), .val (.ref b_105), .val (.int (0 : Int32))] [(.ref b88)])) rfl (by rw [hml]; rfl) (Steps.refl _) (argsL := []) (rest := []) (lenOf pd_11 rfl) rfl (by show 2 * 0 + _ ≤ _; exact Nat.le_of_eq rfl) (hb hby at_90) (fun _ _ => ⟨rfl, rfl, (by decide : 36 + 0 ≤ _), (by decide : 3556 + 0 ≤ _)⟩)
      dsimp only [Pt.U, Pt.locs, Pt.cells, Pt.slots] at X125 l125 y125 z125 st125 hQ125
      subst l125 y125 z125
      obtain ⟨rfl, N125q, e125⟩ := hQ125
      have N125 := Fr.app Nh113 N125q
      obtain ⟨Lh127, Xh127, Nh127⟩ := own_hide X125 N125
      refine own_pre (B := T125.setTop (mkF m 93 #[.val (.long q1), .second, .val (.int p2), .val (.long q3), .second, .val (.long q4), .second, .val (.int p5), .val (.int p6), .val (.ref a86), .val (.ref b88), .val (.ref b_105), .val (.int (0 : Int32))] [(.int (own_f38 p2))])) (fun t k => st125.trans k) ?_
      refine own_pre (B := T125.setTop (mkF m 95 #[.val (.long q1), .second, .val (.int p2), .val (.long q3), .second, .val (.long q4), .second, .val (.int p5), .val (.int p6), .val (.ref a86), .val (.ref b88), .val (.ref b_105), .val (.int (0 : Int32))] [(.int (0 : Int32)), (.int (own_f38 p2))])) (fun t k => XS.iload Xh127.here hx rfl (hb hby at_93) rfl k) ?_
      refine own_pre (B := T125.setTop (mkF m 98 #[.val (.long q1), .second, .val (.int p2), .val (.long q3), .second, .val (.long q4), .second, .val (.int p5), .val (.int p6), .val (.ref a86), .val (.ref b88), .val (.ref b_105), .val (.int (0 : Int32))] [])) (fun t k => XS.icmpNo Xh127.here hx rfl (hb hby at_95) rfl (teq (by unfold own_f38; rw [if_neg hc78_114])).2 k) ?_
      refine own_pre (B := T125.setTop (mkF m 100 #[.val (.long q1), .second, .val (.int p2), .val (.long q3), .second, .val (.long q4), .second, .val (.int p5), .val (.int p6), .val (.ref a86), .val (.ref b88), .val (.ref b_105), .val (.int (0 : Int32))] [(.ref b_105)])) (fun t k => XS.aload Xh127.here hx rfl (hb hby at_98) rfl rfl k) ?_
      obtain ⟨cq128, kq128, q128a, q128b, q128c⟩ := isOf hZ e125 qE105
      obtain ⟨_, _, ⟨T128, L128, k128, n128⟩, -, X128, ⟨Lc128, hQ128, l128, y128, z128⟩, st128⟩ := Xh127.virtualBack hx (y := (⟨"com/example/internode_coordination/internodecoordination/member/LogEntry", "isNoOperation", "()Z"⟩ : MethodName)) (z := (⟨"com/example/internode_coordination/internodecoordination/member/LogEntry", "isNoOperation", "()Z"⟩ : MethodName)) hown (mvT hZ (hw _ (ow 211 rfl))) (mvT hZ (hw _ (ow 212 rfl))) (notFace_of_selects (args := #[]) (mvT hZ (hw _ (ow 214 rfl)))) (mvT hZ (hw _ (ow 214 rfl))) (mvT hZ (hw _ (ow 213 rfl))) (by decide) (backOf (W := 0) (rm38 l Z a0 hw [] b_105 (0 : Int32) T105.heap n0 sz124 qF105) hZ (hw _ (ow 215 rfl)) (hw _ (ow 10 rfl)) (by decide) (by decide)) q128a q128c (g := (mkF m 100 #[.val (.long q1), .second, .val (.int p2), .val (.long q3), .second, .val (.long q4), .second, .val (.int p5), .val (.int p6), .val (.ref a86), .val (.ref b88), .val (.ref b_105), .val (.int (0 : Int32))] [(.ref b_105)])) rfl (by rw [hml]; rfl) (Steps.refl _) (argsL := []) (rest := []) (lenOf pd_11 rfl) rfl (by show 2 * 0 + _ ≤ _; exact Nat.le_of_eq rfl) (hb hby at_100) (fun _ _ => ⟨rfl, e125, (by decide : 36 + 0 ≤ _), (by decide : 3556 + 0 ≤ _)⟩)
      dsimp only [Pt.U, Pt.locs, Pt.cells, Pt.slots] at X128 l128 y128 z128 st128 hQ128
      subst l128 y128 z128
      obtain ⟨rfl, N128q, e128⟩ := hQ128
      have N128 := Fr.app Nh127 N128q
      obtain ⟨Lh129, Xh129, Nh129⟩ := own_hide X128 N128
      refine own_pre (B := T128.setTop (mkF m 103 #[.val (.long q1), .second, .val (.int p2), .val (.long q3), .second, .val (.long q4), .second, .val (.int p5), .val (.int p6), .val (.ref a86), .val (.ref b88), .val (.ref b_105), .val (.int (0 : Int32))] [(.int (own_f38 (0 : Int32)))])) (fun t k => st128.trans k) ?_
      refine own_pre (B := T128.setTop (mkF m 106 #[.val (.long q1), .second, .val (.int p2), .val (.long q3), .second, .val (.long q4), .second, .val (.int p5), .val (.int p6), .val (.ref a86), .val (.ref b88), .val (.ref b_105), .val (.int (0 : Int32))] [])) (fun t k => XS.ifNo Xh129.here hx rfl (hb hby at_103) rfl ((if0 _ _).trans (feq (by decide)).1) k) ?_
      refine own_pre (B := T128.setTop (mkF m 107 #[.val (.long q1), .second, .val (.int p2), .val (.long q3), .second, .val (.long q4), .second, .val (.int p5), .val (.int p6), .val (.ref a86), .val (.ref b88), .val (.ref b_105), .val (.int (0 : Int32))] [(.int (1 : Int32))])) (fun t k => XS.iconst Xh129.here hx rfl (hb hby at_106) k) ?_
      refine own_pre (B := T128.setTop (mkF m 111 #[.val (.long q1), .second, .val (.int p2), .val (.long q3), .second, .val (.long q4), .second, .val (.int p5), .val (.int p6), .val (.ref a86), .val (.ref b88), .val (.ref b_105), .val (.int (0 : Int32))] [(.int (1 : Int32))])) (fun t k => XS.goto Xh129.here hx rfl (pc0 := 107) (pc' := 111) rfl (hb hby at_107) (by decide) (by decide) k) ?_
      have Cr130 := CHr.trans R112 (CHv.at Xh129 hZ (own_EW hw) R112.1)
      obtain ⟨fsr130, hrr130, hrunr130, hendedr130, hWr130⟩ := Xh129.leaveW hS105f (by rw [e128]; exact (Nat.le_refl _)) (v := some (.int (1 : Int32))) (fun h => by rw [Bd.returns] at h; cases h)
      refine ⟨_, _, (retN Xh129 hx (t := .boolean) Bd.returns (by simp) (hb hby at_111) hrr130), hrunr130, hendedr130, _, _, rfl, ?_, ?_, hWr130.1, hWr130.2.1, hWr130.2.2.1, hWr130.2.2.2.mono (by decide) (by decide)⟩
      · show Q0 Z q1 p2 q3 q4 p5 p6 cs h0 n0 _ T128.heap _
        rw [e128]
        exact ⟨rfl, Nh129⟩
      · show CHr Z _ s.vm s.heap T128.vm T128.heap
        rw [hh, e128]
        exact Cr130
set_option maxRecDepth 65536 in
set_option maxHeartbeats 40000000 in
theorem comes_1 {Post : Tables → Env → Array Value → State → Outcome → State → Prop} (hpost : ∀ tb e args s v u, (limb_1_1.after args s (.returned v) u = true ∧ limb_1_2.after args s (.returned v) u = true ∧ True) → FramedW s (.returned v) u (Jvm.fieldLocs frame_1_writes args s ++ Jvm.arrayLocs frame_1_arrays args s ++ Jvm.staticLocs frame_1_statics s) 48 4096 → Post tb e args s (.returned v) u) :
    ArmFor flags0 classFile x code maxLocals ret World_1 tables_1 room_1 Calls_1 rest_1 Pre_1 Post := by
  intro l hfl _ _ p e ha hc hk s m args below hf hA hF happ hP
  obtain ⟨hcalls, hrest, hpre⟩ := hP
  obtain ⟨-, -, -, hnamed, -, -, -, hat⟩ := (Spec.applies_iff hf).mp happ
  obtain ⟨hg, hn⟩ := and_e (Cond.before_iff.mp (show (Jvm.Cond.and given_1 narrow_1).before args s = true from hpre))
  obtain ⟨g1, g2⟩ := and_e hg
  obtain ⟨g3, g4⟩ := and_e g2
  obtain ⟨g5, g6⟩ := and_e g4
  obtain ⟨g7, g8⟩ := and_e g6
  obtain ⟨g9, g10⟩ := and_e g8
  obtain ⟨g11, g12⟩ := and_e g10
  obtain ⟨w0, w1, w2, w3, w4, w5, rfl⟩ : ∃ w0 w1 w2 w3 w4 w5 : Value, args = #[w0, w1, w2, w3, w4, w5] := by
    have hs : args.size = 6 := by simpa [Cond.value, given_1] using g1
    obtain ⟨L⟩ := args
    match L, hs with
    | [w0, w1, w2, w3, w4, w5], _ => exact ⟨w0, w1, w2, w3, w4, w5, rfl⟩
  have hw := fun d (hd : d ∈ tables_1) => atoms_spec (ws := Jvm.Cond.code x code maxLocals ret :: tables_1) hat d (List.mem_cons_of_mem _ hd)
  have hfit : Fit s := fun {y c} hc i hi => by
    obtain ⟨ha, rfl⟩ := Array.getElem?_eq_some_iff.mp hc
    have q := List.all_eq_true.mp ((Array.all_eq_true_iff_forall_mem.mp hF) _ (Array.getElem_mem ha)) i (List.mem_range.mpr hi)
    simpa [Array.getElem?_eq_getElem hi] using q
  obtain ⟨hsets, hown0⟩ := atoms_of _ (rest_1_c_eq ▸ (show rest_1_c.before _ s = true from hrest))
  have hr0 := Cond.before_iff.mp hown0
  obtain ⟨i0, ei0⟩ := isL_v g3
  obtain rfl : w0 = (.long i0) := Option.some.inj ei0
  obtain ⟨i1, ei1⟩ := is_v g5
  obtain rfl : w1 = (.int i1) := Option.some.inj ei1
  obtain ⟨i2, ei2⟩ := isL_v g7
  obtain rfl : w2 = (.long i2) := Option.some.inj ei2
  obtain ⟨i3, ei3⟩ := isL_v g9
  obtain rfl : w3 = (.long i3) := Option.some.inj ei3
  obtain ⟨i4, ei4⟩ := is_v g11
  obtain rfl : w4 = (.int i4) := Option.some.inj ei4
  obtain ⟨i5, ei5⟩ := is_v g12
  obtain rfl : w5 = (.int i5) := Option.some.inj ei5
  obtain ⟨cs, eS⟩ := is_v (Cond.before_iff.mp (hsets _ (List.mem_of_getElem? (i := 1) rfl)))
  have SCS : Sta s s.heap "java/lang/String" "COMPACT_STRINGS" "Z" (.int cs) := Sta.start eS (Or.inl (hsets _ (List.mem_of_getElem? (i := 0) rfl)))
  have hcs : ¬ (cs = (0 : Int32)) := gotF (Cond.eq_ints eS (Term.int_eval (0))) (not_v (Cond.before_iff.mp (hsets _ (List.mem_of_getElem? (i := 2) rfl))))
  obtain ⟨dS, d1, D1, d2, D2, T1, -, T2, -⟩ := Jvm.SetKit.digits_of (fun {y c} hc {i} hi => hfit hc hi) (hw _ (ow 3 rfl)) (hsets _ (List.mem_of_getElem? (i := 9) rfl)) (hsets _ (List.mem_of_getElem? (i := 10) rfl)) (hsets _ (List.mem_of_getElem? (i := 12) rfl)) (hsets _ (List.mem_of_getElem? (i := 13) rfl)) (hsets _ (List.mem_of_getElem? (i := 14) rfl)) (hsets _ (List.mem_of_getElem? (i := 15) rfl)) (hsets _ (List.mem_of_getElem? (i := 17) rfl)) (hsets _ (List.mem_of_getElem? (i := 18) rfl)) (hsets _ (List.mem_of_getElem? (i := 19) rfl))
  have TB : own_T s := ⟨dS, d1, D1, d2, D2, T1, T2⟩
  obtain ⟨n, o, h1, h2, h3, _, L, rfl, ⟨rfl, N⟩, -, hq⟩ := rm0 l s _ hw tables_1 i0 i1 i2 i3 i4 i5 cs s.heap s.heap.size (Nat.le_refl _) (Old.start s) SCS hcs TB p e ha hc hk s m _ below hf ((Spec.applies_iff_loose hf).mp happ).1 ⟨rfl, State.Warmed39.refl s, rfl, (CHv.start (own_EW hw) (fun p hp => hcalls.1 p hp) (hsets _ (List.mem_of_getElem? (i := 2) rfl)) (hw _ (ow 3 rfl)) (hw _ (ow 2 rfl)))⟩ trivial
  refine ⟨n, _, h1, h2, h3, hpost _ _ _ _ _ _ ⟨Cond.after_iff.mpr rfl, Cond.after_iff.mpr (eq_i res_at (Term.int_eval (1)) rfl), trivial⟩ ⟨hq.1, hq.2.1, hq.2.2.1, (hq.2.2.2.sift fun y hy => Or.inr (N y hy)).mono (by decide) (by decide)⟩⟩
theorem main_1_1 : Claimed_1_1 := comes_1 fun _ _ _ _ _ _ h hF => ⟨h.1, hF⟩
theorem main_1_2 : Claimed_1_2 := comes_1 fun _ _ _ _ _ _ h hF => ⟨h.2.1, hF⟩
end Jvm.Pilot.@@N@@
namespace Jvm.Pilot.@@N@@
open Jvm Jvm.ClassFile Sem Op Lib Jvm.Free Jvm.Stand Jvm.Pilot.@@N@@.Jvm.D
/-! MADE BY PROGRAM (witnessworld.py) out of the Statement's table words and the real class files: 29 classes; the members and pool entries that the words name. The judged class is class 1, her method 1. -/
namespace start1
open Jvm.ClassFile
def u (s : String) : CpInfo := .utf8 (stringToUtf16 s)
/-- a pool by its gaps: so many unusable entries, then the entry; so many at the end -/
def gap : Nat → List CpInfo → List CpInfo
  | 0, r => r
  | n + 1, r => .unusable :: gap n r
def poolList (es : List (Nat × CpInfo)) (last : Nat) : List CpInfo := es.foldr (fun e r => gap e.1 (e.2 :: r)) (gap last [])
def pool (es : List (Nat × CpInfo)) (last : Nat) : Array CpInfo := ⟨poolList es last⟩
def fileOf (pool : Array CpInfo) (this : Nat) (attrs : Array Attribute := #[]) (ms : Array MethodInfo := #[]) (fl : Nat := 33) (sup : Nat := 0) (ifs : Array Nat := #[]) (fds : Array FieldInfo := #[]) : ClassFile where
  minorVersion := 0
  majorVersion := 65
  constantPool := pool
  accessFlags := fl
  thisClass := this
  superClass := sup
  interfaces := ifs
  fields := fds
  methods := ms
  attributes := attrs
def plain (name : String) (sup : Option ClassId) : Class where
  name := name
  kind := .ordinary
  loader := none
  accessFlags := 33
  super := sup
  interfaces := #[]
  cf := none
  fields := #[]
  methods := #[]
  instanceTypes := #[]
  staticTypes := #[]
  resolved := #[]
  callSites := []
  init := .initialized
  statics := none
  mirror := none

def pool0 : Array CpInfo := pool [(5, u "<init>"), (0, u "()V"), (1, .class_ 10), (1, u "java/lang/Object"), (85, u "clone"), (0, u "()Ljava/lang/Object;")] 26

def k0c0 : Code := { maxStack := 0, maxLocals := 1, code := object_method_1_code, exceptionTable := #[], attributes := #[] }
def k0m0 : Method := { name := "<init>", desc := "()V", sig := { parameters := [], returnType := none }, accessFlags := 1, code := some k0c0 }
def k0m1 : Method := { name := "clone", desc := "()Ljava/lang/Object;", sig := { parameters := [], returnType := some (.object "java/lang/Object") }, accessFlags := 260, code := none }
/-- java/lang/Object -/
def k0 : Class := { plain "java/lang/Object" none with
  accessFlags := 33
  interfaces := #[]
  cf := some (fileOf pool0 8 #[] #[{ accessFlags := 1, nameIndex := 5, descriptorIndex := 6, attributes := #[] }, { accessFlags := 260, nameIndex := 96, descriptorIndex := 97, attributes := #[] }] 33 0 #[] #[])
  fields := #[]
  methods := #[k0m0, k0m1]
  instanceTypes := #[]
  staticTypes := #[]
  resolved := Array.replicate 124 none
  statics := none }

def pool1 : Array CpInfo := pool [(2, .class_ 4), (1, u "java/lang/Object"), (0, u "<init>"), (0, u "()V"), (0, .string 8), (0, u "NOOP"), (0, .class_ 10), (0, u "java/lang/String"), (0, .methodref 9 12), (0, .nameAndType 5 13), (0, u "([C)V"), (0, .class_ 15), (0, u "com/example/internode_coordination/internodecoordination/member/LogEntry"), (0, .methodref 14 17), (0, .nameAndType 5 18), (0, u "(JIJJLjava/lang/String;)V"), (0, .methodref 14 20), (0, .nameAndType 21 22), (0, u "noOperation"), (0, u "(J)Lcom/example/internode_coordination/internodecoordination/member/LogEntry;"), (0, .methodref 14 24), (0, .nameAndType 25 26), (0, u "isNoOperation"), (0, u "()Z"), (0, .class_ 28), (0, u "com/example/internode_coordination/internodecoordination/member/LogEntryIsNoOperationPinLaw"), (2, u "law"), (0, u "(JIJJII)Z")] 3

def k1m0 : Method := { name := "<init>", desc := "()V", sig := { parameters := [], returnType := none }, accessFlags := 1, code := none }
def k1c1 : Code := { maxStack := 10, maxLocals := 13, code := code, exceptionTable := #[], attributes := #[] }
def k1m1 : Method := { name := "law", desc := "(JIJJII)Z", sig := { parameters := [.long, .int, .long, .long, .int, .int], returnType := some .boolean }, accessFlags := 9, code := some k1c1 }
/-- com/example/internode_coordination/internodecoordination/member/LogEntryIsNoOperationPinLaw -/
def k1 : Class := { plain "com/example/internode_coordination/internodecoordination/member/LogEntryIsNoOperationPinLaw" (some 0) with
  accessFlags := 49
  interfaces := #[]
  cf := some (fileOf pool1 27 #[] #[{ accessFlags := 1, nameIndex := 5, descriptorIndex := 6, attributes := #[] }, { accessFlags := 9, nameIndex := 31, descriptorIndex := 32, attributes := #[] }] 49 2 #[] #[])
  fields := #[]
  methods := #[k1m0, k1m1]
  instanceTypes := #[]
  staticTypes := #[]
  resolved := Array.replicate 36 none
  statics := none }

def pool2 : Array CpInfo := pool [(1, .class_ 2), (0, u "java/io/Serializable"), (0, .class_ 4), (0, u "java/lang/Object")] 2

/-- java/io/Serializable -/
def k2 : Class := { plain "java/io/Serializable" (some 0) with
  accessFlags := 1537
  interfaces := #[]
  cf := some (fileOf pool2 1 #[] #[] 1537 3 #[] #[])
  fields := #[]
  methods := #[]
  instanceTypes := #[]
  staticTypes := #[]
  resolved := Array.replicate 7 none
  statics := none }

def pool3 : Array CpInfo := pool [(1, .class_ 2), (0, u "java/lang/Comparable"), (0, .class_ 4), (0, u "java/lang/Object")] 7

/-- java/lang/Comparable -/
def k3 : Class := { plain "java/lang/Comparable" (some 0) with
  accessFlags := 1537
  interfaces := #[]
  cf := some (fileOf pool3 1 #[] #[] 1537 3 #[] #[])
  fields := #[]
  methods := #[]
  instanceTypes := #[]
  staticTypes := #[]
  resolved := Array.replicate 12 none
  statics := none }

def pool4 : Array CpInfo := pool [(2, .class_ 4), (1, u "java/lang/CharSequence"), (42, .class_ 48), (0, u "java/lang/CharSequence$1CodePointIterator"), (10, .class_ 60), (0, u "java/lang/CharSequence$1CharIterator"), (5, .class_ 67), (0, u "java/lang/Object")] 63

/-- java/lang/CharSequence -/
def k4 : Class := { plain "java/lang/CharSequence" (some 0) with
  accessFlags := 1537
  interfaces := #[]
  cf := some (fileOf pool4 2 #[.nestMembers #[47, 59]] #[] 1537 66 #[] #[])
  fields := #[]
  methods := #[]
  instanceTypes := #[]
  staticTypes := #[]
  resolved := Array.replicate 131 none
  statics := none }

def pool5 : Array CpInfo := pool [(1, .class_ 2), (0, u "java/lang/constant/Constable"), (0, .class_ 4), (0, u "java/lang/Object")] 6

/-- java/lang/constant/Constable -/
def k5 : Class := { plain "java/lang/constant/Constable" (some 0) with
  accessFlags := 1537
  interfaces := #[]
  cf := some (fileOf pool5 1 #[] #[] 1537 3 #[] #[])
  fields := #[]
  methods := #[]
  instanceTypes := #[]
  staticTypes := #[]
  resolved := Array.replicate 11 none
  statics := none }

def pool6 : Array CpInfo := pool [(1, .class_ 2), (0, u "java/lang/constant/ConstantDesc"), (0, .class_ 4), (0, u "java/lang/Object")] 32

/-- java/lang/constant/ConstantDesc -/
def k6 : Class := { plain "java/lang/constant/ConstantDesc" (some 0) with
  accessFlags := 1537
  interfaces := #[]
  cf := some (fileOf pool6 1 #[] #[] 1537 3 #[] #[])
  fields := #[]
  methods := #[]
  instanceTypes := #[]
  staticTypes := #[]
  resolved := Array.replicate 37 none
  statics := none }

def pool7 : Array CpInfo := pool [(1, .methodref 2 3), (0, .class_ 4), (0, .nameAndType 5 6), (0, u "java/lang/Object"), (0, u "<init>"), (0, u "()V"), (2, .fieldref 10 11), (0, .class_ 12), (0, .nameAndType 13 14), (0, u "java/lang/String"), (0, u "value"), (0, u "[B"), (0, .fieldref 10 16), (0, .nameAndType 17 18), (0, u "coder"), (0, u "B"), (2, u "hash"), (0, u "I"), (2, u "hashIsZero"), (0, u "Z"), (0, .methodref 10 28), (0, .nameAndType 5 29), (0, u "([CIILjava/lang/Void;)V"), (8, .fieldref 10 39), (0, .nameAndType 40 26), (0, u "COMPACT_STRINGS"), (1, .class_ 44), (1, u "java/lang/StringUTF16"), (0, u "compress"), (1, .methodref 42 48), (0, .nameAndType 49 50), (0, u "coderFromArrayLen"), (0, u "([BI)B"), (3, .methodref 55 56), (0, .class_ 57), (0, .nameAndType 58 59), (0, u "java/util/Arrays"), (0, u "copyOfRange"), (0, u "([BII)[B"), (82, u "()Z"), (34, .methodref 42 178), (0, .nameAndType 45 179), (0, u "([CII)[B"), (13, .class_ 195), (1, u "java/lang/System"), (16, .methodref 193 213), (0, .nameAndType 214 215), (0, u "arraycopy"), (0, u "(Ljava/lang/Object;ILjava/lang/Object;II)V"), (118, u "()I"), (0, .methodref 10 336), (0, .nameAndType 17 337), (0, u "()B"), (2, u "()[B"), (148, .methodref 10 490), (0, .nameAndType 5 491), (0, u "(Ljava/lang/AbstractStringBuilder;Ljava/lang/Void;)V"), (1, .nameAndType 494 142), (0, u "isLatin1"), (11, .nameAndType 507 334), (0, u "length"), (24, u "getBytes"), (16, .methodref 550 506), (0, .class_ 551), (0, u "java/lang/AbstractStringBuilder"), (0, .methodref 550 553), (0, .nameAndType 554 340), (0, u "getValue"), (20, .class_ 576), (0, u "java/lang/CharSequence"), (22, u "CASE_INSENSITIVE_ORDER"), (0, u "Ljava/util/Comparator;"), (220, u "([BIB)V"), (188, u "([C)V"), (36, .methodref 550 493), (53, u "serialPersistentFields"), (0, u "[Ljava/io/ObjectStreamField;"), (0, .class_ 1104), (0, u "java/lang/String$CaseInsensitiveComparator"), (1, .class_ 1107), (0, u "java/io/Serializable"), (0, .class_ 1109), (0, u "java/lang/Comparable"), (0, .class_ 1111), (0, u "java/lang/constant/Constable"), (0, .class_ 1113), (0, u "java/lang/constant/ConstantDesc"), (2, u "serialVersionUID"), (0, u "J"), (3, u "REPL"), (0, u "C"), (2, u "LATIN1"), (1, u "UTF16"), (105, u "(Ljava/lang/StringBuilder;)V")] 217

def k7m0 : Method := { name := "<init>", desc := "()V", sig := { parameters := [], returnType := none }, accessFlags := 1, code := none }
def k7c1 : Code := { maxStack := 5, maxLocals := 2, code := jdk_42_method_3_code, exceptionTable := #[], attributes := #[] }
def k7m1 : Method := { name := "<init>", desc := "([C)V", sig := { parameters := [(.array .char)], returnType := none }, accessFlags := 1, code := some k7c1 }
def k7c2 : Code := { maxStack := 3, maxLocals := 2, code := jdk_42_method_53_code, exceptionTable := #[], attributes := #[] }
def k7m2 : Method := { name := "<init>", desc := "(Ljava/lang/StringBuilder;)V", sig := { parameters := [(.object "java/lang/StringBuilder")], returnType := none }, accessFlags := 1, code := some k7c2 }
def k7c3 : Code := { maxStack := 2, maxLocals := 1, code := jdk_42_method_54_code, exceptionTable := #[], attributes := #[] }
def k7m3 : Method := { name := "length", desc := "()I", sig := { parameters := [], returnType := some .int }, accessFlags := 1, code := some k7c3 }
def k7c4 : Code := { maxStack := 5, maxLocals := 4, code := jdk_42_method_147_code, exceptionTable := #[], attributes := #[] }
def k7m4 : Method := { name := "getBytes", desc := "([BIB)V", sig := { parameters := [(.array .byte), .int, .byte], returnType := none }, accessFlags := 0, code := some k7c4 }
def k7c5 : Code := { maxStack := 4, maxLocals := 6, code := jdk_42_method_149_code, exceptionTable := #[], attributes := #[] }
def k7m5 : Method := { name := "<init>", desc := "([CIILjava/lang/Void;)V", sig := { parameters := [(.array .char), .int, .int, (.object "java/lang/Void")], returnType := none }, accessFlags := 2, code := some k7c5 }
def k7c6 : Code := { maxStack := 5, maxLocals := 5, code := jdk_42_method_150_code, exceptionTable := #[], attributes := #[] }
def k7m6 : Method := { name := "<init>", desc := "(Ljava/lang/AbstractStringBuilder;Ljava/lang/Void;)V", sig := { parameters := [(.object "java/lang/AbstractStringBuilder"), (.object "java/lang/Void")], returnType := none }, accessFlags := 0, code := some k7c6 }
def k7c7 : Code := { maxStack := 1, maxLocals := 1, code := jdk_42_method_152_code, exceptionTable := #[], attributes := #[] }
def k7m7 : Method := { name := "coder", desc := "()B", sig := { parameters := [], returnType := some .byte }, accessFlags := 0, code := some k7c7 }
/-- java/lang/String -/
def k7 : Class := { plain "java/lang/String" (some 0) with
  accessFlags := 49
  interfaces := #[2, 3, 4, 5, 6]
  cf := some (fileOf pool7 10 #[.nestMembers #[1103]] #[{ accessFlags := 1, nameIndex := 5, descriptorIndex := 6, attributes := #[] }, { accessFlags := 1, nameIndex := 5, descriptorIndex := 1010, attributes := #[] }, { accessFlags := 1, nameIndex := 5, descriptorIndex := 1233, attributes := #[] }, { accessFlags := 1, nameIndex := 507, descriptorIndex := 334, attributes := #[] }, { accessFlags := 0, nameIndex := 532, descriptorIndex := 821, attributes := #[] }, { accessFlags := 2, nameIndex := 5, descriptorIndex := 29, attributes := #[] }, { accessFlags := 0, nameIndex := 5, descriptorIndex := 491, attributes := #[] }, { accessFlags := 0, nameIndex := 17, descriptorIndex := 337, attributes := #[] }] 49 2 #[1106, 1108, 575, 1110, 1112] #[{ accessFlags := 18, nameIndex := 13, descriptorIndex := 14, attributes := #[] }, { accessFlags := 18, nameIndex := 17, descriptorIndex := 18, attributes := #[] }, { accessFlags := 2, nameIndex := 21, descriptorIndex := 22, attributes := #[] }, { accessFlags := 2, nameIndex := 25, descriptorIndex := 26, attributes := #[] }, { accessFlags := 26, nameIndex := 1116, descriptorIndex := 1117, attributes := #[] }, { accessFlags := 24, nameIndex := 40, descriptorIndex := 26, attributes := #[] }, { accessFlags := 26, nameIndex := 1101, descriptorIndex := 1102, attributes := #[] }, { accessFlags := 26, nameIndex := 1121, descriptorIndex := 1122, attributes := #[] }, { accessFlags := 25, nameIndex := 599, descriptorIndex := 600, attributes := #[] }, { accessFlags := 24, nameIndex := 1125, descriptorIndex := 18, attributes := #[] }, { accessFlags := 24, nameIndex := 1127, descriptorIndex := 18, attributes := #[] }])
  fields := #[{ name := "value", type := (.array .byte), accessFlags := 18, slot := 0, constantValue := 0 }, { name := "coder", type := .byte, accessFlags := 18, slot := 1, constantValue := 0 }, { name := "hash", type := .int, accessFlags := 2, slot := 2, constantValue := 0 }, { name := "hashIsZero", type := .boolean, accessFlags := 2, slot := 3, constantValue := 0 }, { name := "serialVersionUID", type := .long, accessFlags := 26, slot := 0, constantValue := 0 }, { name := "COMPACT_STRINGS", type := .boolean, accessFlags := 24, slot := 1, constantValue := 0 }, { name := "serialPersistentFields", type := (.array (.object "java/io/ObjectStreamField")), accessFlags := 26, slot := 2, constantValue := 0 }, { name := "REPL", type := .char, accessFlags := 26, slot := 3, constantValue := 0 }, { name := "CASE_INSENSITIVE_ORDER", type := (.object "java/util/Comparator"), accessFlags := 25, slot := 4, constantValue := 0 }, { name := "LATIN1", type := .byte, accessFlags := 24, slot := 5, constantValue := 0 }, { name := "UTF16", type := .byte, accessFlags := 24, slot := 6, constantValue := 0 }]
  methods := #[k7m0, k7m1, k7m2, k7m3, k7m4, k7m5, k7m6, k7m7]
  instanceTypes := #[(.array .byte), .byte, .int, .boolean]
  staticTypes := #[.long, .boolean, (.array (.object "java/io/ObjectStreamField")), .char, (.object "java/util/Comparator"), .byte, .byte]
  resolved := Array.replicate 1451 none
  statics := some 0 }

def pool8 : Array CpInfo := pool [(1, .class_ 2), (0, u "java/lang/StringBuilder"), (0, .methodref 1 4), (0, .nameAndType 5 6), (0, u "<init>"), (0, u "()V"), (0, .methodref 1 8), (0, .nameAndType 9 10), (0, u "append"), (0, u "(J)Ljava/lang/StringBuilder;"), (0, .string 12), (0, u " "), (0, .methodref 1 14), (0, .nameAndType 9 15), (0, u "(Ljava/lang/String;)Ljava/lang/StringBuilder;"), (0, .methodref 1 17), (0, .nameAndType 9 18), (0, u "(I)Ljava/lang/StringBuilder;"), (0, .methodref 1 20), (0, .nameAndType 21 22), (0, u "toString"), (0, u "()Ljava/lang/String;"), (0, .methodref 24 25), (0, .class_ 26), (0, .nameAndType 5 27), (0, u "com/example/internode_coordination/internodecoordination/member/LogEntry"), (0, u "(JIJJLjava/lang/String;Ljava/lang/String;)V"), (0, .methodref 29 4), (0, .class_ 30), (0, u "java/lang/Object"), (0, .fieldref 24 32), (0, .nameAndType 33 34), (0, u "term"), (0, u "J"), (0, .fieldref 24 36), (0, .nameAndType 37 38), (0, u "origin"), (0, u "I"), (0, .fieldref 24 40), (0, .nameAndType 41 34), (0, u "boot"), (0, .fieldref 24 43), (0, .nameAndType 44 34), (0, u "sequence"), (0, .fieldref 24 46), (0, .nameAndType 47 48), (0, u "command"), (0, u "Ljava/lang/String;"), (0, .fieldref 24 50), (0, .nameAndType 51 48), (0, u "text"), (13, .string 66), (0, u "NOOP"), (0, .methodref 24 68), (0, .nameAndType 5 69), (0, u "(JIJJLjava/lang/String;)V"), (52, u "NO_OPERATION"), (5, u "noOperation"), (0, u "(J)Lcom/example/internode_coordination/internodecoordination/member/LogEntry;"), (1, u "isNoOperation"), (0, u "()Z")] 10

def k8c0 : Code := { maxStack := 12, maxLocals := 9, code := prog_37_method_1_code, exceptionTable := #[], attributes := #[] }
def k8m0 : Method := { name := "<init>", desc := "(JIJJLjava/lang/String;)V", sig := { parameters := [.long, .int, .long, .long, (.object "java/lang/String")], returnType := none }, accessFlags := 0, code := some k8c0 }
def k8c1 : Code := { maxStack := 3, maxLocals := 10, code := prog_37_method_2_code, exceptionTable := #[], attributes := #[] }
def k8m1 : Method := { name := "<init>", desc := "(JIJJLjava/lang/String;Ljava/lang/String;)V", sig := { parameters := [.long, .int, .long, .long, (.object "java/lang/String"), (.object "java/lang/String")], returnType := none }, accessFlags := 2, code := some k8c1 }
def k8c2 : Code := { maxStack := 10, maxLocals := 2, code := prog_37_method_4_code, exceptionTable := #[], attributes := #[] }
def k8m2 : Method := { name := "noOperation", desc := "(J)Lcom/example/internode_coordination/internodecoordination/member/LogEntry;", sig := { parameters := [.long], returnType := some (.object "com/example/internode_coordination/internodecoordination/member/LogEntry") }, accessFlags := 8, code := some k8c2 }
def k8c3 : Code := { maxStack := 1, maxLocals := 1, code := prog_37_method_10_code, exceptionTable := #[], attributes := #[] }
def k8m3 : Method := { name := "isNoOperation", desc := "()Z", sig := { parameters := [], returnType := some .boolean }, accessFlags := 0, code := some k8c3 }
/-- com/example/internode_coordination/internodecoordination/member/LogEntry -/
def k8 : Class := { plain "com/example/internode_coordination/internodecoordination/member/LogEntry" (some 0) with
  accessFlags := 48
  interfaces := #[]
  cf := some (fileOf pool8 24 #[] #[{ accessFlags := 0, nameIndex := 5, descriptorIndex := 69, attributes := #[] }, { accessFlags := 2, nameIndex := 5, descriptorIndex := 27, attributes := #[] }, { accessFlags := 8, nameIndex := 128, descriptorIndex := 129, attributes := #[] }, { accessFlags := 0, nameIndex := 131, descriptorIndex := 132, attributes := #[] }] 48 29 #[] #[{ accessFlags := 26, nameIndex := 122, descriptorIndex := 48, attributes := #[] }, { accessFlags := 18, nameIndex := 33, descriptorIndex := 34, attributes := #[] }, { accessFlags := 18, nameIndex := 37, descriptorIndex := 38, attributes := #[] }, { accessFlags := 18, nameIndex := 41, descriptorIndex := 34, attributes := #[] }, { accessFlags := 18, nameIndex := 44, descriptorIndex := 34, attributes := #[] }, { accessFlags := 18, nameIndex := 47, descriptorIndex := 48, attributes := #[] }, { accessFlags := 18, nameIndex := 51, descriptorIndex := 48, attributes := #[] }])
  fields := #[{ name := "NO_OPERATION", type := (.object "java/lang/String"), accessFlags := 26, slot := 0, constantValue := 0 }, { name := "term", type := .long, accessFlags := 18, slot := 0, constantValue := 0 }, { name := "origin", type := .int, accessFlags := 18, slot := 1, constantValue := 0 }, { name := "boot", type := .long, accessFlags := 18, slot := 2, constantValue := 0 }, { name := "sequence", type := .long, accessFlags := 18, slot := 3, constantValue := 0 }, { name := "command", type := (.object "java/lang/String"), accessFlags := 18, slot := 4, constantValue := 0 }, { name := "text", type := (.object "java/lang/String"), accessFlags := 18, slot := 5, constantValue := 0 }]
  methods := #[k8m0, k8m1, k8m2, k8m3]
  instanceTypes := #[.long, .int, .long, .long, (.object "java/lang/String"), (.object "java/lang/String")]
  staticTypes := #[(.object "java/lang/String")]
  resolved := Array.replicate 143 none
  statics := none }

def pool9 : Array CpInfo := pool [(1, .class_ 2), (0, u "java/lang/Appendable"), (0, .class_ 4), (0, u "java/lang/Object")] 9

/-- java/lang/Appendable -/
def k9 : Class := { plain "java/lang/Appendable" (some 0) with
  accessFlags := 1537
  interfaces := #[]
  cf := some (fileOf pool9 1 #[] #[] 1537 3 #[] #[])
  fields := #[]
  methods := #[]
  instanceTypes := #[]
  staticTypes := #[]
  resolved := Array.replicate 14 none
  statics := none }

def pool10 : Array CpInfo := pool [(1, .class_ 2), (0, u "java/lang/String"), (0, .methodref 4 5), (0, .class_ 6), (0, .nameAndType 7 8), (0, u "java/lang/Object"), (0, u "<init>"), (0, u "()V"), (1, .class_ 12), (1, u "java/lang/AbstractStringBuilder"), (0, u "EMPTYVALUE"), (0, u "[B"), (0, .fieldref 10 16), (0, .nameAndType 17 14), (0, u "value"), (0, .fieldref 1 19), (0, .nameAndType 20 21), (0, u "COMPACT_STRINGS"), (0, u "Z"), (0, .fieldref 10 23), (0, .nameAndType 24 25), (0, u "coder"), (0, u "B"), (6, .methodref 1 33), (0, .nameAndType 34 35), (0, u "length"), (0, u "()I"), (0, .class_ 37), (0, u "java/lang/Integer"), (1, .integer 2147483647), (0, .methodref 1 41), (0, .nameAndType 24 42), (0, u "()B"), (2, u "append"), (0, u "(Ljava/lang/String;)Ljava/lang/AbstractStringBuilder;"), (1, .class_ 49), (0, u "java/lang/CharSequence"), (19, u "(Ljava/lang/String;)V"), (5, u "maybeLatin1"), (3, .fieldref 10 80), (0, .nameAndType 81 82), (0, u "count"), (0, u "I"), (0, .methodref 10 84), (0, .nameAndType 85 86), (0, u "isLatin1"), (0, u "()Z"), (13, .methodref 10 101), (0, .nameAndType 102 103), (0, u "ensureCapacityInternal"), (0, u "(I)V"), (0, .methodref 10 105), (0, .nameAndType 106 107), (0, u "newCapacity"), (0, u "(I)I"), (0, .methodref 109 110), (0, .class_ 111), (0, .nameAndType 112 113), (0, u "java/util/Arrays"), (0, u "copyOf"), (0, u "([BI)[B"), (0, .methodref 115 116), (0, .class_ 117), (0, .nameAndType 118 119), (0, u "jdk/internal/util/ArraysSupport"), (0, u "newLength"), (0, u "(III)I"), (68, u "getChars"), (19, .methodref 10 209), (0, .nameAndType 210 211), (0, u "putStringAt"), (0, u "(ILjava/lang/String;)V"), (5, u "inflateIfNeededFor"), (2, .nameAndType 221 222), (0, u "getBytes"), (0, u "([BIB)V"), (22, .methodref 36 246), (0, .nameAndType 247 107), (0, u "stringSize"), (0, .methodref 36 249), (0, .nameAndType 188 250), (0, u "(II[B)I"), (3, .methodref 255 256), (0, .class_ 257), (0, .nameAndType 247 258), (0, u "java/lang/Long"), (0, u "(J)I"), (0, .methodref 255 260), (0, .nameAndType 188 261), (0, u "(JI[B)I"), (135, .methodref 10 398), (0, .nameAndType 217 69), (0, .methodref 1 220), (3, u "()[B"), (40, .class_ 445), (0, u "java/lang/Appendable"), (65, u "(I)Ljava/lang/AbstractStringBuilder;"), (1, u "(J)Ljava/lang/AbstractStringBuilder;"), (38, u "getValue")] 56

def k10m0 : Method := { name := "<init>", desc := "()V", sig := { parameters := [], returnType := none }, accessFlags := 0, code := none }
def k10c1 : Code := { maxStack := 2, maxLocals := 2, code := jdk_68_method_2_code, exceptionTable := #[], attributes := #[] }
def k10m1 : Method := { name := "<init>", desc := "(I)V", sig := { parameters := [.int], returnType := none }, accessFlags := 0, code := some k10c1 }
def k10c2 : Code := { maxStack := 1, maxLocals := 1, code := jdk_68_method_6_code, exceptionTable := #[], attributes := #[] }
def k10m2 : Method := { name := "length", desc := "()I", sig := { parameters := [], returnType := some .int }, accessFlags := 1, code := some k10c2 }
def k10c3 : Code := { maxStack := 4, maxLocals := 3, code := jdk_68_method_9_code, exceptionTable := #[], attributes := #[] }
def k10m3 : Method := { name := "ensureCapacityInternal", desc := "(I)V", sig := { parameters := [.int], returnType := none }, accessFlags := 2, code := some k10c3 }
def k10c4 : Code := { maxStack := 5, maxLocals := 6, code := jdk_68_method_10_code, exceptionTable := #[], attributes := #[] }
def k10m4 : Method := { name := "newCapacity", desc := "(I)I", sig := { parameters := [.int], returnType := some .int }, accessFlags := 2, code := some k10c4 }
def k10c5 : Code := { maxStack := 3, maxLocals := 3, code := jdk_68_method_22_code, exceptionTable := #[], attributes := #[] }
def k10m5 : Method := { name := "append", desc := "(Ljava/lang/String;)Ljava/lang/AbstractStringBuilder;", sig := { parameters := [(.object "java/lang/String")], returnType := some (.object "java/lang/AbstractStringBuilder") }, accessFlags := 1, code := some k10c5 }
def k10c6 : Code := { maxStack := 4, maxLocals := 4, code := jdk_68_method_32_code, exceptionTable := #[], attributes := #[] }
def k10m6 : Method := { name := "append", desc := "(I)Ljava/lang/AbstractStringBuilder;", sig := { parameters := [.int], returnType := some (.object "java/lang/AbstractStringBuilder") }, accessFlags := 1, code := some k10c6 }
def k10c7 : Code := { maxStack := 5, maxLocals := 5, code := jdk_68_method_33_code, exceptionTable := #[], attributes := #[] }
def k10m7 : Method := { name := "append", desc := "(J)Ljava/lang/AbstractStringBuilder;", sig := { parameters := [.long], returnType := some (.object "java/lang/AbstractStringBuilder") }, accessFlags := 1, code := some k10c7 }
def k10c8 : Code := { maxStack := 1, maxLocals := 1, code := jdk_68_method_64_code, exceptionTable := #[], attributes := #[] }
def k10m8 : Method := { name := "getValue", desc := "()[B", sig := { parameters := [], returnType := some (.array .byte) }, accessFlags := 16, code := some k10c8 }
def k10c9 : Code := { maxStack := 1, maxLocals := 1, code := jdk_68_method_68_code, exceptionTable := #[], attributes := #[] }
def k10m9 : Method := { name := "isLatin1", desc := "()Z", sig := { parameters := [], returnType := some .boolean }, accessFlags := 16, code := some k10c9 }
def k10c10 : Code := { maxStack := 2, maxLocals := 2, code := jdk_68_method_71_code, exceptionTable := #[], attributes := #[] }
def k10m10 : Method := { name := "inflateIfNeededFor", desc := "(Ljava/lang/String;)V", sig := { parameters := [(.object "java/lang/String")], returnType := none }, accessFlags := 2, code := some k10c10 }
def k10c11 : Code := { maxStack := 4, maxLocals := 3, code := jdk_68_method_73_code, exceptionTable := #[], attributes := #[] }
def k10m11 : Method := { name := "putStringAt", desc := "(ILjava/lang/String;)V", sig := { parameters := [.int, (.object "java/lang/String")], returnType := none }, accessFlags := 2, code := some k10c11 }
/-- java/lang/AbstractStringBuilder -/
def k10 : Class := { plain "java/lang/AbstractStringBuilder" (some 0) with
  accessFlags := 1056
  interfaces := #[9, 4]
  cf := some (fileOf pool10 10 #[] #[{ accessFlags := 0, nameIndex := 7, descriptorIndex := 8, attributes := #[] }, { accessFlags := 0, nameIndex := 7, descriptorIndex := 103, attributes := #[] }, { accessFlags := 1, nameIndex := 34, descriptorIndex := 35, attributes := #[] }, { accessFlags := 2, nameIndex := 102, descriptorIndex := 103, attributes := #[] }, { accessFlags := 2, nameIndex := 106, descriptorIndex := 107, attributes := #[] }, { accessFlags := 1, nameIndex := 45, descriptorIndex := 46, attributes := #[] }, { accessFlags := 1, nameIndex := 45, descriptorIndex := 511, attributes := #[] }, { accessFlags := 1, nameIndex := 45, descriptorIndex := 513, attributes := #[] }, { accessFlags := 16, nameIndex := 552, descriptorIndex := 403, attributes := #[] }, { accessFlags := 16, nameIndex := 85, descriptorIndex := 86, attributes := #[] }, { accessFlags := 2, nameIndex := 217, descriptorIndex := 69, attributes := #[] }, { accessFlags := 2, nameIndex := 210, descriptorIndex := 211, attributes := #[] }] 1056 4 #[444, 48] #[{ accessFlags := 0, nameIndex := 17, descriptorIndex := 14, attributes := #[] }, { accessFlags := 0, nameIndex := 24, descriptorIndex := 25, attributes := #[] }, { accessFlags := 0, nameIndex := 75, descriptorIndex := 21, attributes := #[] }, { accessFlags := 0, nameIndex := 81, descriptorIndex := 82, attributes := #[] }, { accessFlags := 26, nameIndex := 13, descriptorIndex := 14, attributes := #[] }])
  fields := #[{ name := "value", type := (.array .byte), accessFlags := 0, slot := 0, constantValue := 0 }, { name := "coder", type := .byte, accessFlags := 0, slot := 1, constantValue := 0 }, { name := "maybeLatin1", type := .boolean, accessFlags := 0, slot := 2, constantValue := 0 }, { name := "count", type := .int, accessFlags := 0, slot := 3, constantValue := 0 }, { name := "EMPTYVALUE", type := (.array .byte), accessFlags := 26, slot := 0, constantValue := 0 }]
  methods := #[k10m0, k10m1, k10m2, k10m3, k10m4, k10m5, k10m6, k10m7, k10m8, k10m9, k10m10, k10m11]
  instanceTypes := #[(.array .byte), .byte, .boolean, .int]
  staticTypes := #[(.array .byte)]
  resolved := Array.replicate 609 none
  statics := none }

def pool11 : Array CpInfo := pool [(1, .methodref 2 3), (0, .class_ 4), (0, .nameAndType 5 6), (0, u "java/lang/AbstractStringBuilder"), (0, u "<init>"), (0, u "(I)V"), (11, .class_ 20), (1, u "java/lang/String"), (3, .class_ 26), (1, u "java/lang/StringBuilder"), (0, u "append"), (0, u "(Ljava/lang/String;)Ljava/lang/StringBuilder;"), (0, .methodref 2 30), (0, .nameAndType 27 31), (0, u "(Ljava/lang/String;)Ljava/lang/AbstractStringBuilder;"), (21, .methodref 2 54), (0, .nameAndType 27 55), (0, u "(I)Ljava/lang/AbstractStringBuilder;"), (0, .methodref 2 57), (0, .nameAndType 27 58), (0, u "(J)Ljava/lang/AbstractStringBuilder;"), (78, .methodref 18 138), (0, .nameAndType 5 139), (0, u "(Ljava/lang/StringBuilder;)V"), (5, u "()V"), (10, u "()I"), (111, u "(I)Ljava/lang/StringBuilder;"), (12, u "(J)Ljava/lang/StringBuilder;"), (61, .methodref 2 344), (0, .nameAndType 345 156), (0, u "length"), (3, .class_ 350), (0, u "java/lang/Appendable"), (0, .class_ 352), (0, u "java/io/Serializable"), (0, .class_ 354), (0, u "java/lang/Comparable"), (0, .class_ 356), (0, u "java/lang/CharSequence"), (0, u "serialVersionUID"), (0, u "J"), (40, u "toString"), (0, u "()Ljava/lang/String;")] 21

def k11c0 : Code := { maxStack := 2, maxLocals := 1, code := jdk_67_method_1_code, exceptionTable := #[], attributes := #[] }
def k11m0 : Method := { name := "<init>", desc := "()V", sig := { parameters := [], returnType := none }, accessFlags := 1, code := some k11c0 }
def k11c1 : Code := { maxStack := 2, maxLocals := 2, code := jdk_67_method_7_code, exceptionTable := #[], attributes := #[] }
def k11m1 : Method := { name := "append", desc := "(Ljava/lang/String;)Ljava/lang/StringBuilder;", sig := { parameters := [(.object "java/lang/String")], returnType := some (.object "java/lang/StringBuilder") }, accessFlags := 1, code := some k11c1 }
def k11c2 : Code := { maxStack := 2, maxLocals := 2, code := jdk_67_method_15_code, exceptionTable := #[], attributes := #[] }
def k11m2 : Method := { name := "append", desc := "(I)Ljava/lang/StringBuilder;", sig := { parameters := [.int], returnType := some (.object "java/lang/StringBuilder") }, accessFlags := 1, code := some k11c2 }
def k11c3 : Code := { maxStack := 3, maxLocals := 3, code := jdk_67_method_16_code, exceptionTable := #[], attributes := #[] }
def k11m3 : Method := { name := "append", desc := "(J)Ljava/lang/StringBuilder;", sig := { parameters := [.long], returnType := some (.object "java/lang/StringBuilder") }, accessFlags := 1, code := some k11c3 }
def k11c4 : Code := { maxStack := 3, maxLocals := 1, code := jdk_67_method_42_code, exceptionTable := #[], attributes := #[] }
def k11m4 : Method := { name := "toString", desc := "()Ljava/lang/String;", sig := { parameters := [], returnType := some (.object "java/lang/String") }, accessFlags := 1, code := some k11c4 }
def k11c5 : Code := { maxStack := 1, maxLocals := 1, code := jdk_67_method_93_code, exceptionTable := #[], attributes := #[] }
def k11m5 : Method := { name := "length", desc := "()I", sig := { parameters := [], returnType := some .int }, accessFlags := 4161, code := some k11c5 }
/-- java/lang/StringBuilder -/
def k11 : Class := { plain "java/lang/StringBuilder" (some 10) with
  accessFlags := 49
  interfaces := #[9, 2, 3, 4]
  cf := some (fileOf pool11 24 #[] #[{ accessFlags := 1, nameIndex := 5, descriptorIndex := 145, attributes := #[] }, { accessFlags := 1, nameIndex := 27, descriptorIndex := 28, attributes := #[] }, { accessFlags := 1, nameIndex := 27, descriptorIndex := 268, attributes := #[] }, { accessFlags := 1, nameIndex := 27, descriptorIndex := 281, attributes := #[] }, { accessFlags := 1, nameIndex := 399, descriptorIndex := 400, attributes := #[] }, { accessFlags := 4161, nameIndex := 345, descriptorIndex := 156, attributes := #[] }] 49 2 #[349, 351, 353, 355] #[{ accessFlags := 24, nameIndex := 357, descriptorIndex := 358, attributes := #[] }])
  fields := #[{ name := "serialVersionUID", type := .long, accessFlags := 24, slot := 0, constantValue := 0 }]
  methods := #[k11m0, k11m1, k11m2, k11m3, k11m4, k11m5]
  instanceTypes := #[(.array .byte), .byte, .boolean, .int]
  staticTypes := #[.long]
  resolved := Array.replicate 422 none
  statics := none }

def pool12 : Array CpInfo := pool [(2, .class_ 4), (1, u "java/lang/Object"), (0, u "<init>"), (0, u "()V"), (1, .class_ 10), (1, u "java/lang/Number"), (2, .class_ 14), (0, u "java/io/Serializable"), (0, u "serialVersionUID"), (0, u "J")] 20

def k12m0 : Method := { name := "<init>", desc := "()V", sig := { parameters := [], returnType := none }, accessFlags := 1, code := none }
/-- java/lang/Number -/
def k12 : Class := { plain "java/lang/Number" (some 0) with
  accessFlags := 1057
  interfaces := #[2]
  cf := some (fileOf pool12 8 #[] #[{ accessFlags := 1, nameIndex := 5, descriptorIndex := 6, attributes := #[] }] 1057 2 #[13] #[{ accessFlags := 26, nameIndex := 15, descriptorIndex := 16, attributes := #[] }])
  fields := #[{ name := "serialVersionUID", type := .long, accessFlags := 26, slot := 0, constantValue := 0 }]
  methods := #[k12m0]
  instanceTypes := #[]
  staticTypes := #[.long]
  resolved := Array.replicate 37 none
  statics := none }

def pool13 : Array CpInfo := pool [(1, .class_ 2), (0, u "java/lang/Long"), (15, .class_ 20), (1, u "java/lang/Integer"), (32, .long 10), (47, u "(J)I"), (18, u "stringSize"), (2, u "getChars"), (0, u "(JI[B)I"), (4, .long 18446744071562067968), (1, .long 100), (1, .fieldref 18 134), (0, .nameAndType 135 136), (0, u "DigitOnes"), (0, u "[B"), (0, .fieldref 18 138), (0, .nameAndType 139 136), (0, u "DigitTens"), (0, .long 18446744073709551606), (94, .class_ 237), (1, u "java/lang/Long$LongCache"), (33, .class_ 272), (0, u "java/lang/Number"), (2, u "value"), (0, u "J"), (84, u "TYPE"), (0, u "Ljava/lang/Class;"), (0, .class_ 364), (0, u "java/lang/Comparable"), (0, .class_ 366), (0, u "java/lang/constant/Constable"), (0, .class_ 368), (0, u "java/lang/constant/ConstantDesc"), (0, u "MIN_VALUE"), (1, u "MAX_VALUE"), (4, u "SIZE"), (0, u "I"), (1, u "BYTES"), (1, u "serialVersionUID")] 142

def k13c0 : Code := { maxStack := 4, maxLocals := 11, code := jdk_35_method_14_code, exceptionTable := #[], attributes := #[] }
def k13m0 : Method := { name := "getChars", desc := "(JI[B)I", sig := { parameters := [.long, .int, (.array .byte)], returnType := some .int }, accessFlags := 8, code := some k13c0 }
def k13c1 : Code := { maxStack := 4, maxLocals := 6, code := jdk_35_method_15_code, exceptionTable := #[], attributes := #[] }
def k13m1 : Method := { name := "stringSize", desc := "(J)I", sig := { parameters := [.long], returnType := some .int }, accessFlags := 8, code := some k13c1 }
/-- java/lang/Long -/
def k13 : Class := { plain "java/lang/Long" (some 12) with
  accessFlags := 49
  interfaces := #[3, 5, 6]
  cf := some (fileOf pool13 1 #[.nestMembers #[235]] #[{ accessFlags := 8, nameIndex := 123, descriptorIndex := 124, attributes := #[] }, { accessFlags := 8, nameIndex := 120, descriptorIndex := 101, attributes := #[] }] 49 271 #[363, 365, 367] #[{ accessFlags := 25, nameIndex := 369, descriptorIndex := 276, attributes := #[] }, { accessFlags := 25, nameIndex := 371, descriptorIndex := 276, attributes := #[] }, { accessFlags := 25, nameIndex := 361, descriptorIndex := 362, attributes := #[] }, { accessFlags := 18, nameIndex := 275, descriptorIndex := 276, attributes := #[] }, { accessFlags := 25, nameIndex := 376, descriptorIndex := 377, attributes := #[] }, { accessFlags := 25, nameIndex := 379, descriptorIndex := 377, attributes := #[] }, { accessFlags := 26, nameIndex := 381, descriptorIndex := 276, attributes := #[] }])
  fields := #[{ name := "MIN_VALUE", type := .long, accessFlags := 25, slot := 0, constantValue := 0 }, { name := "MAX_VALUE", type := .long, accessFlags := 25, slot := 1, constantValue := 0 }, { name := "TYPE", type := (.object "java/lang/Class"), accessFlags := 25, slot := 2, constantValue := 0 }, { name := "value", type := .long, accessFlags := 18, slot := 0, constantValue := 0 }, { name := "SIZE", type := .int, accessFlags := 25, slot := 3, constantValue := 0 }, { name := "BYTES", type := .int, accessFlags := 25, slot := 4, constantValue := 0 }, { name := "serialVersionUID", type := .long, accessFlags := 26, slot := 5, constantValue := 0 }]
  methods := #[k13m0, k13m1]
  instanceTypes := #[.long]
  staticTypes := #[.long, .long, (.object "java/lang/Class"), .int, .int, .long]
  resolved := Array.replicate 524 none
  statics := none }

def pool14 : Array CpInfo := pool [(1, .class_ 2), (0, u "java/lang/Integer"), (16, u "digits"), (0, u "[C"), (33, u "(I)I"), (19, u "stringSize"), (2, u "getChars"), (0, u "(II[B)I"), (4, .fieldref 1 84), (0, .nameAndType 85 86), (0, u "DigitOnes"), (0, u "[B"), (0, .fieldref 1 88), (0, .nameAndType 89 86), (0, u "DigitTens"), (99, .class_ 190), (0, u "java/lang/Integer$IntegerCache"), (3, u "I"), (8, .class_ 204), (0, u "java/lang/Number"), (2, u "value"), (94, u "TYPE"), (0, u "Ljava/lang/Class;"), (0, .class_ 305), (0, u "java/lang/Comparable"), (0, .class_ 307), (0, u "java/lang/constant/Constable"), (0, .class_ 309), (0, u "java/lang/constant/ConstantDesc"), (0, u "MIN_VALUE"), (1, u "MAX_VALUE"), (3, u "SIZE"), (1, u "BYTES"), (1, u "serialVersionUID"), (0, u "J")] 131

def k14c0 : Code := { maxStack := 4, maxLocals := 7, code := jdk_33_method_12_code, exceptionTable := #[], attributes := #[] }
def k14m0 : Method := { name := "getChars", desc := "(II[B)I", sig := { parameters := [.int, .int, (.array .byte)], returnType := some .int }, accessFlags := 8, code := some k14c0 }
def k14c1 : Code := { maxStack := 2, maxLocals := 4, code := jdk_33_method_13_code, exceptionTable := #[], attributes := #[] }
def k14m1 : Method := { name := "stringSize", desc := "(I)I", sig := { parameters := [.int], returnType := some .int }, accessFlags := 8, code := some k14c1 }
/-- java/lang/Integer -/
def k14 : Class := { plain "java/lang/Integer" (some 12) with
  accessFlags := 49
  interfaces := #[3, 5, 6]
  cf := some (fileOf pool14 1 #[.nestMembers #[189]] #[{ accessFlags := 8, nameIndex := 77, descriptorIndex := 78, attributes := #[] }, { accessFlags := 8, nameIndex := 74, descriptorIndex := 54, attributes := #[] }] 49 203 #[304, 306, 308] #[{ accessFlags := 25, nameIndex := 310, descriptorIndex := 194, attributes := #[] }, { accessFlags := 25, nameIndex := 312, descriptorIndex := 194, attributes := #[] }, { accessFlags := 25, nameIndex := 302, descriptorIndex := 303, attributes := #[] }, { accessFlags := 24, nameIndex := 19, descriptorIndex := 20, attributes := #[] }, { accessFlags := 24, nameIndex := 89, descriptorIndex := 86, attributes := #[] }, { accessFlags := 24, nameIndex := 85, descriptorIndex := 86, attributes := #[] }, { accessFlags := 18, nameIndex := 207, descriptorIndex := 194, attributes := #[] }, { accessFlags := 25, nameIndex := 316, descriptorIndex := 194, attributes := #[] }, { accessFlags := 25, nameIndex := 318, descriptorIndex := 194, attributes := #[] }, { accessFlags := 26, nameIndex := 320, descriptorIndex := 321, attributes := #[] }])
  fields := #[{ name := "MIN_VALUE", type := .int, accessFlags := 25, slot := 0, constantValue := 0 }, { name := "MAX_VALUE", type := .int, accessFlags := 25, slot := 1, constantValue := 0 }, { name := "TYPE", type := (.object "java/lang/Class"), accessFlags := 25, slot := 2, constantValue := 0 }, { name := "digits", type := (.array .char), accessFlags := 24, slot := 3, constantValue := 0 }, { name := "DigitTens", type := (.array .byte), accessFlags := 24, slot := 4, constantValue := 0 }, { name := "DigitOnes", type := (.array .byte), accessFlags := 24, slot := 5, constantValue := 0 }, { name := "value", type := .int, accessFlags := 18, slot := 0, constantValue := 0 }, { name := "SIZE", type := .int, accessFlags := 25, slot := 6, constantValue := 0 }, { name := "BYTES", type := .int, accessFlags := 25, slot := 7, constantValue := 0 }, { name := "serialVersionUID", type := .long, accessFlags := 26, slot := 8, constantValue := 0 }]
  methods := #[k14m0, k14m1]
  instanceTypes := #[.int]
  staticTypes := #[.int, .int, (.object "java/lang/Class"), (.array .char), (.array .byte), (.array .byte), .int, .int, .long]
  resolved := Array.replicate 453 none
  statics := some 1 }

def pool15 : Array CpInfo := pool [(2, .class_ 4), (1, u "java/lang/Object"), (0, u "<init>"), (0, u "()V"), (1, .class_ 10), (1, u "java/lang/System"), (0, u "allowSecurityManager"), (0, u "I"), (16, u "cons"), (0, u "Ljava/io/Console;"), (77, .class_ 110), (1, u "java/lang/System$CallersHolder"), (43, u "initialErrStream"), (0, u "Ljava/io/PrintStream;"), (19, u "security"), (0, u "Ljava/lang/SecurityManager;"), (31, .class_ 209), (0, u "java/lang/System$1"), (7, u "props"), (0, u "Ljava/util/Properties;"), (2, u "lineSeparator"), (0, u "Ljava/lang/String;"), (96, .class_ 321), (1, u "java/lang/System$LoggerFinder"), (5, .class_ 328), (0, u "java/lang/System$Logger"), (67, u "err"), (2, u "out"), (91, u "notSupportedJnuEncoding"), (15, u "in"), (17, u "initialIn"), (0, u "Ljava/io/InputStream;"), (35, u "bootLayer"), (0, u "Ljava/lang/ModuleLayer;"), (99, .class_ 664), (0, u "java/lang/System$2"), (9, u "NEVER"), (2, u "MAYBE"), (49, u "arraycopy"), (0, u "(Ljava/lang/Object;ILjava/lang/Object;II)V"), (72, .class_ 802), (0, u "java/lang/System$Logger$Level")] 31

def k15m0 : Method := { name := "<init>", desc := "()V", sig := { parameters := [], returnType := none }, accessFlags := 2, code := none }
def k15m1 : Method := { name := "arraycopy", desc := "(Ljava/lang/Object;ILjava/lang/Object;II)V", sig := { parameters := [(.object "java/lang/Object"), .int, (.object "java/lang/Object"), .int, .int], returnType := none }, accessFlags := 265, code := none }
/-- java/lang/System -/
def k15 : Class := { plain "java/lang/System" (some 0) with
  accessFlags := 49
  interfaces := #[]
  cf := some (fileOf pool15 8 #[.nestMembers #[319, 327, 801, 108, 663, 208]] #[{ accessFlags := 2, nameIndex := 5, descriptorIndex := 6, attributes := #[] }, { accessFlags := 265, nameIndex := 727, descriptorIndex := 728, attributes := #[] }] 49 2 #[] #[{ accessFlags := 25, nameIndex := 507, descriptorIndex := 526, attributes := #[] }, { accessFlags := 25, nameIndex := 399, descriptorIndex := 155, attributes := #[] }, { accessFlags := 25, nameIndex := 396, descriptorIndex := 155, attributes := #[] }, { accessFlags := 10, nameIndex := 525, descriptorIndex := 526, attributes := #[] }, { accessFlags := 26, nameIndex := 674, descriptorIndex := 12, attributes := #[] }, { accessFlags := 26, nameIndex := 677, descriptorIndex := 12, attributes := #[] }, { accessFlags := 10, nameIndex := 11, descriptorIndex := 12, attributes := #[] }, { accessFlags := 74, nameIndex := 175, descriptorIndex := 176, attributes := #[] }, { accessFlags := 10, nameIndex := 491, descriptorIndex := 222, attributes := #[] }, { accessFlags := 74, nameIndex := 29, descriptorIndex := 30, attributes := #[] }, { accessFlags := 74, nameIndex := 154, descriptorIndex := 155, attributes := #[] }, { accessFlags := 10, nameIndex := 217, descriptorIndex := 218, attributes := #[] }, { accessFlags := 10, nameIndex := 221, descriptorIndex := 222, attributes := #[] }, { accessFlags := 8, nameIndex := 562, descriptorIndex := 563, attributes := #[] }])
  fields := #[{ name := "in", type := (.object "java/io/InputStream"), accessFlags := 25, slot := 0, constantValue := 0 }, { name := "out", type := (.object "java/io/PrintStream"), accessFlags := 25, slot := 1, constantValue := 0 }, { name := "err", type := (.object "java/io/PrintStream"), accessFlags := 25, slot := 2, constantValue := 0 }, { name := "initialIn", type := (.object "java/io/InputStream"), accessFlags := 10, slot := 3, constantValue := 0 }, { name := "NEVER", type := .int, accessFlags := 26, slot := 4, constantValue := 0 }, { name := "MAYBE", type := .int, accessFlags := 26, slot := 5, constantValue := 0 }, { name := "allowSecurityManager", type := .int, accessFlags := 10, slot := 6, constantValue := 0 }, { name := "security", type := (.object "java/lang/SecurityManager"), accessFlags := 74, slot := 7, constantValue := 0 }, { name := "notSupportedJnuEncoding", type := (.object "java/lang/String"), accessFlags := 10, slot := 8, constantValue := 0 }, { name := "cons", type := (.object "java/io/Console"), accessFlags := 74, slot := 9, constantValue := 0 }, { name := "initialErrStream", type := (.object "java/io/PrintStream"), accessFlags := 74, slot := 10, constantValue := 0 }, { name := "props", type := (.object "java/util/Properties"), accessFlags := 10, slot := 11, constantValue := 0 }, { name := "lineSeparator", type := (.object "java/lang/String"), accessFlags := 10, slot := 12, constantValue := 0 }, { name := "bootLayer", type := (.object "java/lang/ModuleLayer"), accessFlags := 8, slot := 13, constantValue := 0 }]
  methods := #[k15m0, k15m1]
  instanceTypes := #[]
  staticTypes := #[(.object "java/io/InputStream"), (.object "java/io/PrintStream"), (.object "java/io/PrintStream"), (.object "java/io/InputStream"), .int, .int, .int, (.object "java/lang/SecurityManager"), (.object "java/lang/String"), (.object "java/io/Console"), (.object "java/io/PrintStream"), (.object "java/util/Properties"), (.object "java/lang/String"), (.object "java/lang/ModuleLayer")]
  resolved := Array.replicate 834 none
  statics := none }

def pool16 : Array CpInfo := pool [(9, u "<init>"), (6, .class_ 18), (1, u "java/lang/Object"), (0, u "()V"), (1, .class_ 23), (1, u "jdk/internal/util/ArraysSupport"), (0, u "LOG2_ARRAY_LONG_INDEX_SCALE"), (0, u "I"), (2, u "U"), (0, u "Ljdk/internal/misc/Unsafe;"), (8, u "BIG_ENDIAN"), (0, u "Z"), (8, u "LOG2_BYTE_BIT_SIZE"), (4, u "LOG2_ARRAY_INT_INDEX_SCALE"), (54, u "JLA"), (0, u "Ljdk/internal/access/JavaLangAccess;"), (11, u "LOG2_ARRAY_BOOLEAN_INDEX_SCALE"), (9, u "LOG2_ARRAY_BYTE_INDEX_SCALE"), (5, u "LOG2_ARRAY_CHAR_INDEX_SCALE"), (5, u "LOG2_ARRAY_SHORT_INDEX_SCALE"), (18, u "LOG2_ARRAY_FLOAT_INDEX_SCALE"), (24, u "LOG2_ARRAY_DOUBLE_INDEX_SCALE"), (6, .methodref 195 196), (0, .class_ 197), (0, .nameAndType 198 199), (0, u "java/lang/Math"), (0, u "max"), (0, u "(II)I"), (0, .integer 2147483639), (76, u "T_BOOLEAN"), (2, u "T_CHAR"), (1, u "T_FLOAT"), (1, u "T_DOUBLE"), (1, u "T_BYTE"), (1, u "T_SHORT"), (1, u "T_INT"), (1, u "T_LONG"), (1, u "SOFT_MAX_ARRAY_LENGTH"), (56, u "newLength"), (0, u "(III)I")] 25

def k16m0 : Method := { name := "<init>", desc := "()V", sig := { parameters := [], returnType := none }, accessFlags := 2, code := none }
def k16c1 : Code := { maxStack := 3, maxLocals := 4, code := jdk_48_method_27_code, exceptionTable := #[], attributes := #[] }
def k16m1 : Method := { name := "newLength", desc := "(III)I", sig := { parameters := [.int, .int, .int], returnType := some .int }, accessFlags := 9, code := some k16c1 }
/-- jdk/internal/util/ArraysSupport -/
def k16 : Class := { plain "jdk/internal/util/ArraysSupport" (some 0) with
  accessFlags := 33
  interfaces := #[]
  cf := some (fileOf pool16 21 #[] #[{ accessFlags := 2, nameIndex := 9, descriptorIndex := 19, attributes := #[] }, { accessFlags := 9, nameIndex := 351, descriptorIndex := 352, attributes := #[] }] 33 16 #[] #[{ accessFlags := 24, nameIndex := 28, descriptorIndex := 29, attributes := #[] }, { accessFlags := 26, nameIndex := 38, descriptorIndex := 39, attributes := #[] }, { accessFlags := 25, nameIndex := 121, descriptorIndex := 25, attributes := #[] }, { accessFlags := 25, nameIndex := 131, descriptorIndex := 25, attributes := #[] }, { accessFlags := 25, nameIndex := 137, descriptorIndex := 25, attributes := #[] }, { accessFlags := 25, nameIndex := 143, descriptorIndex := 25, attributes := #[] }, { accessFlags := 25, nameIndex := 53, descriptorIndex := 25, attributes := #[] }, { accessFlags := 25, nameIndex := 24, descriptorIndex := 25, attributes := #[] }, { accessFlags := 25, nameIndex := 162, descriptorIndex := 25, attributes := #[] }, { accessFlags := 25, nameIndex := 187, descriptorIndex := 25, attributes := #[] }, { accessFlags := 26, nameIndex := 48, descriptorIndex := 25, attributes := #[] }, { accessFlags := 25, nameIndex := 277, descriptorIndex := 25, attributes := #[] }, { accessFlags := 25, nameIndex := 280, descriptorIndex := 25, attributes := #[] }, { accessFlags := 25, nameIndex := 282, descriptorIndex := 25, attributes := #[] }, { accessFlags := 25, nameIndex := 284, descriptorIndex := 25, attributes := #[] }, { accessFlags := 25, nameIndex := 286, descriptorIndex := 25, attributes := #[] }, { accessFlags := 25, nameIndex := 288, descriptorIndex := 25, attributes := #[] }, { accessFlags := 25, nameIndex := 290, descriptorIndex := 25, attributes := #[] }, { accessFlags := 25, nameIndex := 292, descriptorIndex := 25, attributes := #[] }, { accessFlags := 26, nameIndex := 108, descriptorIndex := 109, attributes := #[] }, { accessFlags := 25, nameIndex := 294, descriptorIndex := 25, attributes := #[] }])
  fields := #[{ name := "U", type := (.object "jdk/internal/misc/Unsafe"), accessFlags := 24, slot := 0, constantValue := 0 }, { name := "BIG_ENDIAN", type := .boolean, accessFlags := 26, slot := 1, constantValue := 0 }, { name := "LOG2_ARRAY_BOOLEAN_INDEX_SCALE", type := .int, accessFlags := 25, slot := 2, constantValue := 0 }, { name := "LOG2_ARRAY_BYTE_INDEX_SCALE", type := .int, accessFlags := 25, slot := 3, constantValue := 0 }, { name := "LOG2_ARRAY_CHAR_INDEX_SCALE", type := .int, accessFlags := 25, slot := 4, constantValue := 0 }, { name := "LOG2_ARRAY_SHORT_INDEX_SCALE", type := .int, accessFlags := 25, slot := 5, constantValue := 0 }, { name := "LOG2_ARRAY_INT_INDEX_SCALE", type := .int, accessFlags := 25, slot := 6, constantValue := 0 }, { name := "LOG2_ARRAY_LONG_INDEX_SCALE", type := .int, accessFlags := 25, slot := 7, constantValue := 0 }, { name := "LOG2_ARRAY_FLOAT_INDEX_SCALE", type := .int, accessFlags := 25, slot := 8, constantValue := 0 }, { name := "LOG2_ARRAY_DOUBLE_INDEX_SCALE", type := .int, accessFlags := 25, slot := 9, constantValue := 0 }, { name := "LOG2_BYTE_BIT_SIZE", type := .int, accessFlags := 26, slot := 10, constantValue := 0 }, { name := "T_BOOLEAN", type := .int, accessFlags := 25, slot := 11, constantValue := 0 }, { name := "T_CHAR", type := .int, accessFlags := 25, slot := 12, constantValue := 0 }, { name := "T_FLOAT", type := .int, accessFlags := 25, slot := 13, constantValue := 0 }, { name := "T_DOUBLE", type := .int, accessFlags := 25, slot := 14, constantValue := 0 }, { name := "T_BYTE", type := .int, accessFlags := 25, slot := 15, constantValue := 0 }, { name := "T_SHORT", type := .int, accessFlags := 25, slot := 16, constantValue := 0 }, { name := "T_INT", type := .int, accessFlags := 25, slot := 17, constantValue := 0 }, { name := "T_LONG", type := .int, accessFlags := 25, slot := 18, constantValue := 0 }, { name := "JLA", type := (.object "jdk/internal/access/JavaLangAccess"), accessFlags := 26, slot := 19, constantValue := 0 }, { name := "SOFT_MAX_ARRAY_LENGTH", type := .int, accessFlags := 25, slot := 20, constantValue := 0 }]
  methods := #[k16m0, k16m1]
  instanceTypes := #[]
  staticTypes := #[(.object "jdk/internal/misc/Unsafe"), .boolean, .int, .int, .int, .int, .int, .int, .int, .int, .int, .int, .int, .int, .int, .int, .int, .int, .int, (.object "jdk/internal/access/JavaLangAccess"), .int]
  resolved := Array.replicate 378 none
  statics := none }

def pool17 : Array CpInfo := pool [(1, .class_ 2), (0, u "java/lang/Math"), (1, .class_ 6), (1, u "java/lang/Object"), (0, u "<init>"), (0, u "()V"), (89, .class_ 100), (1, u "java/lang/Math$RandomNumberGeneratorHolder"), (71, u "negativeZeroFloatBits"), (0, u "J"), (2, u "negativeZeroDoubleBits"), (21, u "max"), (2, u "min"), (43, u "$assertionsDisabled"), (0, u "Z"), (88, u "(II)I"), (2, u "twoToTheDoubleScaleDown"), (0, u "D"), (4, u "twoToTheDoubleScaleUp"), (9, u "E"), (3, u "PI"), (2, u "TAU"), (2, u "DEGREES_TO_RADIANS"), (0, u "RADIANS_TO_DEGREES")] 94

def k17m0 : Method := { name := "<init>", desc := "()V", sig := { parameters := [], returnType := none }, accessFlags := 2, code := none }
def k17c1 : Code := { maxStack := 2, maxLocals := 2, code := jdk_29_method_65_code, exceptionTable := #[], attributes := #[] }
def k17m1 : Method := { name := "max", desc := "(II)I", sig := { parameters := [.int, .int], returnType := some .int }, accessFlags := 9, code := some k17c1 }
def k17c2 : Code := { maxStack := 2, maxLocals := 2, code := jdk_29_method_69_code, exceptionTable := #[], attributes := #[] }
def k17m2 : Method := { name := "min", desc := "(II)I", sig := { parameters := [.int, .int], returnType := some .int }, accessFlags := 9, code := some k17c2 }
/-- java/lang/Math -/
def k17 : Class := { plain "java/lang/Math" (some 0) with
  accessFlags := 49
  interfaces := #[]
  cf := some (fileOf pool17 1 #[.nestMembers #[98]] #[{ accessFlags := 2, nameIndex := 7, descriptorIndex := 8, attributes := #[] }, { accessFlags := 9, nameIndex := 198, descriptorIndex := 335, attributes := #[] }, { accessFlags := 9, nameIndex := 201, descriptorIndex := 335, attributes := #[] }] 49 4 #[] #[{ accessFlags := 25, nameIndex := 354, descriptorIndex := 339, attributes := #[] }, { accessFlags := 25, nameIndex := 358, descriptorIndex := 339, attributes := #[] }, { accessFlags := 25, nameIndex := 361, descriptorIndex := 339, attributes := #[] }, { accessFlags := 26, nameIndex := 364, descriptorIndex := 339, attributes := #[] }, { accessFlags := 26, nameIndex := 365, descriptorIndex := 339, attributes := #[] }, { accessFlags := 26, nameIndex := 172, descriptorIndex := 173, attributes := #[] }, { accessFlags := 26, nameIndex := 176, descriptorIndex := 173, attributes := #[] }, { accessFlags := 8, nameIndex := 344, descriptorIndex := 339, attributes := #[] }, { accessFlags := 8, nameIndex := 338, descriptorIndex := 339, attributes := #[] }, { accessFlags := 4120, nameIndex := 245, descriptorIndex := 246, attributes := #[] }])
  fields := #[{ name := "E", type := .double, accessFlags := 25, slot := 0, constantValue := 0 }, { name := "PI", type := .double, accessFlags := 25, slot := 1, constantValue := 0 }, { name := "TAU", type := .double, accessFlags := 25, slot := 2, constantValue := 0 }, { name := "DEGREES_TO_RADIANS", type := .double, accessFlags := 26, slot := 3, constantValue := 0 }, { name := "RADIANS_TO_DEGREES", type := .double, accessFlags := 26, slot := 4, constantValue := 0 }, { name := "negativeZeroFloatBits", type := .long, accessFlags := 26, slot := 5, constantValue := 0 }, { name := "negativeZeroDoubleBits", type := .long, accessFlags := 26, slot := 6, constantValue := 0 }, { name := "twoToTheDoubleScaleUp", type := .double, accessFlags := 8, slot := 7, constantValue := 0 }, { name := "twoToTheDoubleScaleDown", type := .double, accessFlags := 8, slot := 8, constantValue := 0 }, { name := "$assertionsDisabled", type := .boolean, accessFlags := 4120, slot := 9, constantValue := 0 }]
  methods := #[k17m0, k17m1, k17m2]
  instanceTypes := #[]
  staticTypes := #[.double, .double, .double, .double, .double, .long, .long, .double, .double, .boolean]
  resolved := Array.replicate 460 none
  statics := none }

def pool18 : Array CpInfo := pool [(2, .class_ 4), (1, u "java/lang/Object"), (0, u "<init>"), (0, u "()V"), (7, .class_ 16), (1, u "java/util/Arrays"), (57, .class_ 76), (1, u "java/util/Arrays$NaturalOrder"), (32, u "()Ljava/lang/Object;"), (3, .class_ 115), (1, u "java/util/Arrays$LegacyMergeSort"), (1, u "Z"), (10, .nameAndType 129 109), (0, u "clone"), (9, u "copyOfRange"), (10, .methodref 151 152), (0, .class_ 153), (0, .nameAndType 154 155), (0, u "java/lang/System"), (0, u "arraycopy"), (0, u "(Ljava/lang/Object;ILjava/lang/Object;II)V"), (146, u "copyOf"), (1, .methodref 305 306), (0, .class_ 307), (0, .nameAndType 308 309), (0, u "java/lang/Math"), (0, u "min"), (0, u "(II)I"), (0, .methodref 311 128), (0, .class_ 312), (0, u "[B"), (26, .methodref 14 340), (0, .nameAndType 341 342), (0, u "copyOfRangeByte"), (0, u "([BII)[B"), (0, .methodref 14 344), (0, .nameAndType 345 346), (0, u "checkLength"), (0, u "(II)V"), (28, .class_ 376), (0, u "java/util/Arrays$ArrayList"), (68, u "$assertionsDisabled"), (269, u "MIN_ARRAY_SORT_GRAN"), (0, u "I"), (2, u "INSERTIONSORT_THRESHOLD"), (149, u "([BI)[B"), (105, .class_ 976), (0, u "java/util/Arrays$ArrayItr")] 52

def k18m0 : Method := { name := "<init>", desc := "()V", sig := { parameters := [], returnType := none }, accessFlags := 2, code := none }
def k18c1 : Code := { maxStack := 6, maxLocals := 3, code := jdk_65_method_121_code, exceptionTable := #[], attributes := #[] }
def k18m1 : Method := { name := "copyOf", desc := "([BI)[B", sig := { parameters := [(.array .byte), .int], returnType := some (.array .byte) }, accessFlags := 9, code := some k18c1 }
def k18c2 : Code := { maxStack := 4, maxLocals := 2, code := jdk_65_method_131_code, exceptionTable := #[], attributes := #[] }
def k18m2 : Method := { name := "checkLength", desc := "(II)V", sig := { parameters := [.int, .int], returnType := none }, accessFlags := 10, code := some k18c2 }
def k18c3 : Code := { maxStack := 3, maxLocals := 3, code := jdk_65_method_132_code, exceptionTable := #[], attributes := #[] }
def k18m3 : Method := { name := "copyOfRange", desc := "([BII)[B", sig := { parameters := [(.array .byte), .int, .int], returnType := some (.array .byte) }, accessFlags := 9, code := some k18c3 }
def k18c4 : Code := { maxStack := 6, maxLocals := 5, code := jdk_65_method_133_code, exceptionTable := #[], attributes := #[] }
def k18m4 : Method := { name := "copyOfRangeByte", desc := "([BII)[B", sig := { parameters := [(.array .byte), .int, .int], returnType := some (.array .byte) }, accessFlags := 10, code := some k18c4 }
/-- java/util/Arrays -/
def k18 : Class := { plain "java/util/Arrays" (some 0) with
  accessFlags := 49
  interfaces := #[]
  cf := some (fileOf pool18 14 #[.nestMembers #[975, 375, 113, 74]] #[{ accessFlags := 2, nameIndex := 5, descriptorIndex := 6, attributes := #[] }, { accessFlags := 9, nameIndex := 302, descriptorIndex := 869, attributes := #[] }, { accessFlags := 10, nameIndex := 345, descriptorIndex := 346, attributes := #[] }, { accessFlags := 9, nameIndex := 139, descriptorIndex := 342, attributes := #[] }, { accessFlags := 10, nameIndex := 341, descriptorIndex := 342, attributes := #[] }] 49 2 #[] #[{ accessFlags := 26, nameIndex := 715, descriptorIndex := 716, attributes := #[] }, { accessFlags := 26, nameIndex := 719, descriptorIndex := 716, attributes := #[] }, { accessFlags := 4120, nameIndex := 445, descriptorIndex := 117, attributes := #[] }])
  fields := #[{ name := "MIN_ARRAY_SORT_GRAN", type := .int, accessFlags := 26, slot := 0, constantValue := 0 }, { name := "INSERTIONSORT_THRESHOLD", type := .int, accessFlags := 26, slot := 1, constantValue := 0 }, { name := "$assertionsDisabled", type := .boolean, accessFlags := 4120, slot := 2, constantValue := 0 }]
  methods := #[k18m0, k18m1, k18m2, k18m3, k18m4]
  instanceTypes := #[]
  staticTypes := #[.int, .int, .boolean]
  resolved := Array.replicate 1029 none
  statics := none }

def pool19 : Array CpInfo := pool [(6, .class_ 8), (1, u "java/lang/Object"), (0, u "<init>"), (0, u "()V"), (1, .class_ 14), (1, u "java/lang/StringUTF16"), (31, u "$assertionsDisabled"), (0, u "Z"), (13, u "HI_BYTE_SHIFT"), (0, u "I"), (2, u "LO_BYTE_SHIFT"), (49, .methodref 12 116), (0, .nameAndType 117 118), (0, u "compress"), (0, u "([CI[BII)I"), (3, u "([CII)[B"), (138, u "coderFromArrayLen"), (0, u "([BI)B"), (106, .class_ 371), (1, u "java/lang/StringUTF16$LinesSpliterator"), (58, u "MAX_LENGTH"), (196, .class_ 628), (0, u "java/lang/StringUTF16$CodePointsSpliterator"), (0, .class_ 630), (0, u "java/lang/StringUTF16$CharsSpliterator")] 4

def k19m0 : Method := { name := "<init>", desc := "()V", sig := { parameters := [], returnType := none }, accessFlags := 0, code := none }
def k19c1 : Code := { maxStack := 2, maxLocals := 2, code := jdk_52_method_15_code, exceptionTable := #[], attributes := #[] }
def k19m1 : Method := { name := "coderFromArrayLen", desc := "([BI)B", sig := { parameters := [(.array .byte), .int], returnType := some .byte }, accessFlags := 8, code := some k19c1 }
def k19c2 : Code := { maxStack := 5, maxLocals := 6, code := jdk_52_method_16_code, exceptionTable := #[], attributes := #[] }
def k19m2 : Method := { name := "compress", desc := "([CII)[B", sig := { parameters := [(.array .char), .int, .int], returnType := some (.array .byte) }, accessFlags := 9, code := some k19c2 }
def k19c3 : Code := { maxStack := 3, maxLocals := 7, code := jdk_52_method_21_code, exceptionTable := #[], attributes := #[] }
def k19m3 : Method := { name := "compress", desc := "([CI[BII)I", sig := { parameters := [(.array .char), .int, (.array .byte), .int, .int], returnType := some .int }, accessFlags := 9, code := some k19c3 }
/-- java/lang/StringUTF16 -/
def k19 : Class := { plain "java/lang/StringUTF16" (some 0) with
  accessFlags := 48
  interfaces := #[]
  cf := some (fileOf pool19 12 #[.nestMembers #[627, 629, 369]] #[{ accessFlags := 0, nameIndex := 9, descriptorIndex := 10, attributes := #[] }, { accessFlags := 8, nameIndex := 261, descriptorIndex := 262, attributes := #[] }, { accessFlags := 9, nameIndex := 117, descriptorIndex := 122, attributes := #[] }, { accessFlags := 9, nameIndex := 117, descriptorIndex := 118, attributes := #[] }] 48 6 #[] #[{ accessFlags := 26, nameIndex := 61, descriptorIndex := 62, attributes := #[] }, { accessFlags := 26, nameIndex := 65, descriptorIndex := 62, attributes := #[] }, { accessFlags := 24, nameIndex := 430, descriptorIndex := 62, attributes := #[] }, { accessFlags := 4120, nameIndex := 46, descriptorIndex := 47, attributes := #[] }])
  fields := #[{ name := "HI_BYTE_SHIFT", type := .int, accessFlags := 26, slot := 0, constantValue := 0 }, { name := "LO_BYTE_SHIFT", type := .int, accessFlags := 26, slot := 1, constantValue := 0 }, { name := "MAX_LENGTH", type := .int, accessFlags := 24, slot := 2, constantValue := 0 }, { name := "$assertionsDisabled", type := .boolean, accessFlags := 4120, slot := 3, constantValue := 0 }]
  methods := #[k19m0, k19m1, k19m2, k19m3]
  instanceTypes := #[]
  staticTypes := #[.int, .int, .int, .boolean]
  resolved := Array.replicate 635 none
  statics := none }

def pool20 : Array CpInfo := pool [(1, .class_ 2), (0, u "java/lang/Cloneable"), (0, .class_ 4), (0, u "java/lang/Object")] 2

/-- java/lang/Cloneable -/
def k20 : Class := { plain "java/lang/Cloneable" (some 0) with
  accessFlags := 1537
  interfaces := #[]
  cf := some (fileOf pool20 1 #[] #[] 1537 3 #[] #[])
  fields := #[]
  methods := #[]
  instanceTypes := #[]
  staticTypes := #[]
  resolved := Array.replicate 7 none
  statics := none }

def pool21 : Array CpInfo := pool [(4, .class_ 6), (1, u "java/lang/Object"), (0, u "<init>"), (0, u "()V"), (5, .class_ 16), (1, u "java/lang/StringLatin1"), (104, u "$assertionsDisabled"), (0, u "Z"), (98, .class_ 223), (1, u "java/lang/StringLatin1$LinesSpliterator"), (166, .class_ 391), (0, u "java/lang/StringLatin1$CharsSpliterator")] 3

def k21m0 : Method := { name := "<init>", desc := "()V", sig := { parameters := [], returnType := none }, accessFlags := 0, code := none }
/-- java/lang/StringLatin1 -/
def k21 : Class := { plain "java/lang/StringLatin1" (some 0) with
  accessFlags := 48
  interfaces := #[]
  cf := some (fileOf pool21 14 #[.nestMembers #[390, 221]] #[{ accessFlags := 0, nameIndex := 7, descriptorIndex := 8, attributes := #[] }] 48 4 #[] #[{ accessFlags := 4120, nameIndex := 121, descriptorIndex := 122, attributes := #[] }])
  fields := #[{ name := "$assertionsDisabled", type := .boolean, accessFlags := 4120, slot := 0, constantValue := 0 }]
  methods := #[k21m0]
  instanceTypes := #[]
  staticTypes := #[.boolean]
  resolved := Array.replicate 395 none
  statics := none }

def pool22 : Array CpInfo := pool [(2, .class_ 4), (1, u "java/lang/Object"), (0, u "<init>"), (0, u "()V"), (17, .class_ 26), (1, u "jdk/internal/util/Preconditions"), (28, .class_ 56), (0, u "jdk/internal/util/Preconditions$4"), (57, .class_ 115), (0, u "jdk/internal/util/Preconditions$1"), (7, u "SIOOBE_FORMATTER"), (0, u "Ljava/util/function/BiFunction;"), (0, .class_ 126), (0, u "jdk/internal/util/Preconditions$2"), (3, u "AIOOBE_FORMATTER"), (0, .class_ 132), (0, u "jdk/internal/util/Preconditions$3"), (3, u "IOOBE_FORMATTER")] 57

def k22m0 : Method := { name := "<init>", desc := "()V", sig := { parameters := [], returnType := none }, accessFlags := 1, code := none }
/-- jdk/internal/util/Preconditions -/
def k22 : Class := { plain "jdk/internal/util/Preconditions" (some 0) with
  accessFlags := 33
  interfaces := #[]
  cf := some (fileOf pool22 24 #[.nestMembers #[55, 131, 125, 114]] #[{ accessFlags := 1, nameIndex := 5, descriptorIndex := 6, attributes := #[] }] 33 2 #[] #[{ accessFlags := 25, nameIndex := 123, descriptorIndex := 124, attributes := #[] }, { accessFlags := 25, nameIndex := 130, descriptorIndex := 124, attributes := #[] }, { accessFlags := 25, nameIndex := 136, descriptorIndex := 124, attributes := #[] }])
  fields := #[{ name := "SIOOBE_FORMATTER", type := (.object "java/util/function/BiFunction"), accessFlags := 25, slot := 0, constantValue := 0 }, { name := "AIOOBE_FORMATTER", type := (.object "java/util/function/BiFunction"), accessFlags := 25, slot := 1, constantValue := 0 }, { name := "IOOBE_FORMATTER", type := (.object "java/util/function/BiFunction"), accessFlags := 25, slot := 2, constantValue := 0 }]
  methods := #[k22m0]
  instanceTypes := #[]
  staticTypes := #[(.object "java/util/function/BiFunction"), (.object "java/util/function/BiFunction"), (.object "java/util/function/BiFunction")]
  resolved := Array.replicate 194 none
  statics := some 2 }

/-- the primitive byte -/
def k23 : Class := { plain "byte" none with kind := .primitive 'B', accessFlags := 0x411 }
/-- [B -/
def k24 : Class := { plain "[B" (some 0) with kind := .array 23 .byte, interfaces := #[20, 2], accessFlags := 1041 }

/-- the primitive char -/
def k25 : Class := { plain "char" none with kind := .primitive 'C', accessFlags := 0x411 }
/-- [C -/
def k26 : Class := { plain "[C" (some 0) with kind := .array 25 .char, interfaces := #[20, 2], accessFlags := 1041 }

/-- the primitive int -/
def k27 : Class := { plain "int" none with kind := .primitive 'I', accessFlags := 0x411 }
/-- [I -/
def k28 : Class := { plain "[I" (some 0) with kind := .array 27 .int, interfaces := #[20, 2], accessFlags := 1041 }

def heap : Heap := #[{ cls := 7, slots := #[.long 0, .int 1, .null, .int 0, .null, .int 0, .int 0], vm := .statics 7 },
  { cls := 14, slots := #[.int 0, .int 0, .null, .null, .ref 4, .ref 3, .int 0, .int 0, .long 0], vm := .statics 14 },
  { cls := 22, slots := #[.null, .null, .null], vm := .statics 22 },
  { cls := 24, slots := #[.int 48, .int 49, .int 50, .int 51, .int 52, .int 53, .int 54, .int 55, .int 56, .int 57, .int 48, .int 49, .int 50, .int 51, .int 52, .int 53, .int 54, .int 55, .int 56, .int 57, .int 48, .int 49, .int 50, .int 51, .int 52, .int 53, .int 54, .int 55, .int 56, .int 57, .int 48, .int 49, .int 50, .int 51, .int 52, .int 53, .int 54, .int 55, .int 56, .int 57, .int 48, .int 49, .int 50, .int 51, .int 52, .int 53, .int 54, .int 55, .int 56, .int 57, .int 48, .int 49, .int 50, .int 51, .int 52, .int 53, .int 54, .int 55, .int 56, .int 57, .int 48, .int 49, .int 50, .int 51, .int 52, .int 53, .int 54, .int 55, .int 56, .int 57, .int 48, .int 49, .int 50, .int 51, .int 52, .int 53, .int 54, .int 55, .int 56, .int 57, .int 48, .int 49, .int 50, .int 51, .int 52, .int 53, .int 54, .int 55, .int 56, .int 57, .int 48, .int 49, .int 50, .int 51, .int 52, .int 53, .int 54, .int 55, .int 56, .int 57], vm := .none },
  { cls := 24, slots := #[.int 48, .int 48, .int 48, .int 48, .int 48, .int 48, .int 48, .int 48, .int 48, .int 48, .int 49, .int 49, .int 49, .int 49, .int 49, .int 49, .int 49, .int 49, .int 49, .int 49, .int 50, .int 50, .int 50, .int 50, .int 50, .int 50, .int 50, .int 50, .int 50, .int 50, .int 51, .int 51, .int 51, .int 51, .int 51, .int 51, .int 51, .int 51, .int 51, .int 51, .int 52, .int 52, .int 52, .int 52, .int 52, .int 52, .int 52, .int 52, .int 52, .int 52, .int 53, .int 53, .int 53, .int 53, .int 53, .int 53, .int 53, .int 53, .int 53, .int 53, .int 54, .int 54, .int 54, .int 54, .int 54, .int 54, .int 54, .int 54, .int 54, .int 54, .int 55, .int 55, .int 55, .int 55, .int 55, .int 55, .int 55, .int 55, .int 55, .int 55, .int 56, .int 56, .int 56, .int 56, .int 56, .int 56, .int 56, .int 56, .int 56, .int 56, .int 57, .int 57, .int 57, .int 57, .int 57, .int 57, .int 57, .int 57, .int 57, .int 57], vm := .none }]
def classes : Array Class := #[k0, k1, k2, k3, k4, k5, k6, k7, k8, k9, k10, k11, k12, k13, k14, k15, k16, k17, k18, k19, k20, k21, k22, k23, k24, k25, k26, k27, k28]
def interned : List (Array UInt16 × Addr) := []
def slotsUsed : Nat := 219
def theMethod : MethodId := ⟨1, 1⟩
def args0 : Array Value := #[.long 1, .int 2, .long 3, .long 4, .int 5, .int 6]
def aboutOver (below : List Frame) : State where
  vm := { classes := classes, interned := interned.toArray }
  heap := heap
  slotsUsed := slotsUsed
  threads := #[{ frames := .invoking theMethod args0 :: below }]
def below0 : List Frame := [.native { method := ⟨0, 0⟩, args := #[] }]
def about1 : State := aboutOver below0
def p0 : Program := .bare "" "" ""
def e0 : Env := launch0.env 0 0 0
theorem w_frames : about1.frames = Frame.invoking theMethod args0 :: below0 := rfl
set_option maxRecDepth 65536 in
theorem w_args : argsFit about1.vm theMethod args0 = true := by decide +kernel
set_option maxRecDepth 65536 in
theorem w_heap : heapFits about1 = true := by decide +kernel
set_option maxRecDepth 65536 in
theorem w_runnable : about1.curStatus? = some .runnable := by decide +kernel
set_option maxRecDepth 65536 in
theorem w_alone : about1.alone = true := by decide +kernel
set_option maxRecDepth 65536 in
theorem w_named : about1.methodNamed? x = some theMethod := by decide +kernel
set_option maxRecDepth 65536 in
theorem w_hears : about1.hears theMethod below0 = true := by decide +kernel
set_option maxRecDepth 65536 in
theorem w_ripe : about1.ripe theMethod args0 below0 = true := by decide +kernel
theorem w_running : about1.status = .running := rfl
set_option maxRecDepth 65536 in
theorem w_room : about1.hasRoom e0.platform room_1 = true :=
  launch0.hasRoom_least _ room_1 (by decide +kernel) (by decide +kernel) (by decide +kernel) (by decide +kernel) (by decide +kernel) (by decide +kernel)
theorem allAtoms_all (ts : List Jvm.Cond) (a : Array Jvm.Value) (st : Jvm.State) : (allAtoms ts).before a st = ts.all (fun c => c.before a st) := by
  induction ts with
  | nil => rfl
  | cons c t ih =>
    show (Jvm.Cond.and c (allAtoms t)).before a st = _
    rw [Jvm.Cond.before_and, ih, List.all_cons]
def words1 : List Jvm.Cond := Jvm.Cond.code x code maxLocals ret :: tables_1
/-- a 'code' word, met by the world's own term for the bytes: nothing is compared byte by byte -/
theorem code_word {y : MethodName} {bytes : ByteArray} {mx : Nat} {rt : Option FieldType} {a : Array Value} {s : State} {m : MethodId} {meth : Method} {c : Code} (h1 : s.methodNamed? y = some m) (h2 : s.vm.method? m = some meth) (h3 : meth.code = some c) (h4 : c.code = bytes)
    (h5 : (c.maxLocals == mx && c.exceptionTable.isEmpty && decide (c.maxStack ≤ mostOperands) && decide (meth.sig.returnType = rt) && !meth.locks && decide (parseMethodDescriptor y.desc = some meth.sig)) = true) : (Jvm.Cond.code y bytes mx rt).before a s = true := by
  simp only [Bool.and_eq_true, beq_iff_eq, Bool.not_eq_true', decide_eq_true_eq] at h5
  obtain ⟨⟨⟨⟨⟨g1, g2⟩, g3⟩, g4⟩, g5⟩, g6⟩ := h5
  simp [Cond.before, Cond.holds, Cond.value, h1, h2, h3, h4, g1, g2, g3, g4, g5, g6]
def isCode : Jvm.Cond → Bool
  | .code _ _ _ _ => true
  | _ => false
theorem all_split {L : List Jvm.Cond} {P : Jvm.Cond → Bool} (h1 : L.all (fun c => isCode c || P c) = true) (h2 : ∀ c ∈ L.filter isCode, P c = true) : L.all P = true := by
  refine List.all_eq_true.mpr fun c hc => ?_
  have h := List.all_eq_true.mp h1 c hc
  rcases Bool.eq_false_or_eq_true (isCode c) with hi | hi
  · exact h2 c (List.mem_filter.mpr ⟨hc, hi⟩)
  · simpa [hi] using h
set_option maxRecDepth 65536 in
theorem w_c0 : (Jvm.Cond.code x code maxLocals ret).before args0 about1 = true := code_word (m := ⟨1, 1⟩) (meth := k1m1) (c := k1c1) (by decide +kernel) rfl rfl rfl (by decide +kernel)
set_option maxRecDepth 65536 in
theorem w_c1 : (Jvm.Cond.code ({ cls := "com/example/internode_coordination/internodecoordination/member/LogEntry", name := "<init>", desc := "(JIJJLjava/lang/String;)V" } : Jvm.MethodName) prog_37_method_1_code (9 : Nat) (Option.none : Option Jvm.ClassFile.FieldType)).before args0 about1 = true := code_word (m := ⟨8, 0⟩) (meth := k8m0) (c := k8c0) (by decide +kernel) rfl rfl rfl (by decide +kernel)
set_option maxRecDepth 65536 in
theorem w_c2 : (Jvm.Cond.code ({ cls := "java/lang/StringBuilder", name := "<init>", desc := "()V" } : Jvm.MethodName) jdk_67_method_1_code (1 : Nat) (Option.none : Option Jvm.ClassFile.FieldType)).before args0 about1 = true := code_word (m := ⟨11, 0⟩) (meth := k11m0) (c := k11c0) (by decide +kernel) rfl rfl rfl (by decide +kernel)
set_option maxRecDepth 65536 in
theorem w_c3 : (Jvm.Cond.code ({ cls := "java/lang/AbstractStringBuilder", name := "<init>", desc := "(I)V" } : Jvm.MethodName) jdk_68_method_2_code (2 : Nat) (Option.none : Option Jvm.ClassFile.FieldType)).before args0 about1 = true := code_word (m := ⟨10, 1⟩) (meth := k10m1) (c := k10c1) (by decide +kernel) rfl rfl rfl (by decide +kernel)
set_option maxRecDepth 65536 in
theorem w_c4 : (Jvm.Cond.code ({ cls := "java/lang/Object", name := "<init>", desc := "()V" } : Jvm.MethodName) object_method_1_code (1 : Nat) (Option.none : Option Jvm.ClassFile.FieldType)).before args0 about1 = true := code_word (m := ⟨0, 0⟩) (meth := k0m0) (c := k0c0) (by decide +kernel) rfl rfl rfl (by decide +kernel)
set_option maxRecDepth 65536 in
theorem w_c5 : (Jvm.Cond.code ({ cls := "java/lang/StringBuilder", name := "append", desc := "(J)Ljava/lang/StringBuilder;" } : Jvm.MethodName) jdk_67_method_16_code (3 : Nat) (Option.some (Jvm.ClassFile.FieldType.object "java/lang/StringBuilder"))).before args0 about1 = true := code_word (m := ⟨11, 3⟩) (meth := k11m3) (c := k11c3) (by decide +kernel) rfl rfl rfl (by decide +kernel)
set_option maxRecDepth 65536 in
theorem w_c6 : (Jvm.Cond.code ({ cls := "java/lang/AbstractStringBuilder", name := "append", desc := "(J)Ljava/lang/AbstractStringBuilder;" } : Jvm.MethodName) jdk_68_method_33_code (5 : Nat) (Option.some (Jvm.ClassFile.FieldType.object "java/lang/AbstractStringBuilder"))).before args0 about1 = true := code_word (m := ⟨10, 7⟩) (meth := k10m7) (c := k10c7) (by decide +kernel) rfl rfl rfl (by decide +kernel)
set_option maxRecDepth 65536 in
theorem w_c7 : (Jvm.Cond.code ({ cls := "java/lang/Long", name := "stringSize", desc := "(J)I" } : Jvm.MethodName) jdk_35_method_15_code (6 : Nat) (Option.some Jvm.ClassFile.FieldType.int)).before args0 about1 = true := code_word (m := ⟨13, 1⟩) (meth := k13m1) (c := k13c1) (by decide +kernel) rfl rfl rfl (by decide +kernel)
set_option maxRecDepth 65536 in
theorem w_c8 : (Jvm.Cond.code ({ cls := "java/lang/AbstractStringBuilder", name := "ensureCapacityInternal", desc := "(I)V" } : Jvm.MethodName) jdk_68_method_9_code (3 : Nat) (Option.none : Option Jvm.ClassFile.FieldType)).before args0 about1 = true := code_word (m := ⟨10, 3⟩) (meth := k10m3) (c := k10c3) (by decide +kernel) rfl rfl rfl (by decide +kernel)
set_option maxRecDepth 65536 in
theorem w_c9 : (Jvm.Cond.code ({ cls := "java/lang/AbstractStringBuilder", name := "isLatin1", desc := "()Z" } : Jvm.MethodName) jdk_68_method_68_code (1 : Nat) (Option.some Jvm.ClassFile.FieldType.boolean)).before args0 about1 = true := code_word (m := ⟨10, 9⟩) (meth := k10m9) (c := k10c9) (by decide +kernel) rfl rfl rfl (by decide +kernel)
set_option maxRecDepth 65536 in
theorem w_c10 : (Jvm.Cond.code ({ cls := "java/lang/Long", name := "getChars", desc := "(JI[B)I" } : Jvm.MethodName) jdk_35_method_14_code (11 : Nat) (Option.some Jvm.ClassFile.FieldType.int)).before args0 about1 = true := code_word (m := ⟨13, 0⟩) (meth := k13m0) (c := k13c0) (by decide +kernel) rfl rfl rfl (by decide +kernel)
set_option maxRecDepth 65536 in
theorem w_c11 : (Jvm.Cond.code ({ cls := "java/lang/StringBuilder", name := "append", desc := "(Ljava/lang/String;)Ljava/lang/StringBuilder;" } : Jvm.MethodName) jdk_67_method_7_code (2 : Nat) (Option.some (Jvm.ClassFile.FieldType.object "java/lang/StringBuilder"))).before args0 about1 = true := code_word (m := ⟨11, 1⟩) (meth := k11m1) (c := k11c1) (by decide +kernel) rfl rfl rfl (by decide +kernel)
set_option maxRecDepth 65536 in
theorem w_c12 : (Jvm.Cond.code ({ cls := "java/lang/AbstractStringBuilder", name := "append", desc := "(Ljava/lang/String;)Ljava/lang/AbstractStringBuilder;" } : Jvm.MethodName) jdk_68_method_22_code (3 : Nat) (Option.some (Jvm.ClassFile.FieldType.object "java/lang/AbstractStringBuilder"))).before args0 about1 = true := code_word (m := ⟨10, 5⟩) (meth := k10m5) (c := k10c5) (by decide +kernel) rfl rfl rfl (by decide +kernel)
set_option maxRecDepth 65536 in
theorem w_c13 : (Jvm.Cond.code ({ cls := "java/lang/String", name := "length", desc := "()I" } : Jvm.MethodName) jdk_42_method_54_code (1 : Nat) (Option.some Jvm.ClassFile.FieldType.int)).before args0 about1 = true := code_word (m := ⟨7, 3⟩) (meth := k7m3) (c := k7c3) (by decide +kernel) rfl rfl rfl (by decide +kernel)
set_option maxRecDepth 65536 in
theorem w_c14 : (Jvm.Cond.code ({ cls := "java/lang/String", name := "coder", desc := "()B" } : Jvm.MethodName) jdk_42_method_152_code (1 : Nat) (Option.some Jvm.ClassFile.FieldType.byte)).before args0 about1 = true := code_word (m := ⟨7, 7⟩) (meth := k7m7) (c := k7c7) (by decide +kernel) rfl rfl rfl (by decide +kernel)
set_option maxRecDepth 65536 in
theorem w_c15 : (Jvm.Cond.code ({ cls := "java/lang/AbstractStringBuilder", name := "putStringAt", desc := "(ILjava/lang/String;)V" } : Jvm.MethodName) jdk_68_method_73_code (3 : Nat) (Option.none : Option Jvm.ClassFile.FieldType)).before args0 about1 = true := code_word (m := ⟨10, 11⟩) (meth := k10m11) (c := k10c11) (by decide +kernel) rfl rfl rfl (by decide +kernel)
set_option maxRecDepth 65536 in
theorem w_c16 : (Jvm.Cond.code ({ cls := "java/lang/AbstractStringBuilder", name := "inflateIfNeededFor", desc := "(Ljava/lang/String;)V" } : Jvm.MethodName) jdk_68_method_71_code (2 : Nat) (Option.none : Option Jvm.ClassFile.FieldType)).before args0 about1 = true := code_word (m := ⟨10, 10⟩) (meth := k10m10) (c := k10c10) (by decide +kernel) rfl rfl rfl (by decide +kernel)
set_option maxRecDepth 65536 in
theorem w_c17 : (Jvm.Cond.code ({ cls := "java/lang/String", name := "getBytes", desc := "([BIB)V" } : Jvm.MethodName) jdk_42_method_147_code (4 : Nat) (Option.none : Option Jvm.ClassFile.FieldType)).before args0 about1 = true := code_word (m := ⟨7, 4⟩) (meth := k7m4) (c := k7c4) (by decide +kernel) rfl rfl rfl (by decide +kernel)
set_option maxRecDepth 65536 in
theorem w_c18 : (Jvm.Cond.code ({ cls := "java/lang/StringBuilder", name := "append", desc := "(I)Ljava/lang/StringBuilder;" } : Jvm.MethodName) jdk_67_method_15_code (2 : Nat) (Option.some (Jvm.ClassFile.FieldType.object "java/lang/StringBuilder"))).before args0 about1 = true := code_word (m := ⟨11, 2⟩) (meth := k11m2) (c := k11c2) (by decide +kernel) rfl rfl rfl (by decide +kernel)
set_option maxRecDepth 65536 in
theorem w_c19 : (Jvm.Cond.code ({ cls := "java/lang/AbstractStringBuilder", name := "append", desc := "(I)Ljava/lang/AbstractStringBuilder;" } : Jvm.MethodName) jdk_68_method_32_code (4 : Nat) (Option.some (Jvm.ClassFile.FieldType.object "java/lang/AbstractStringBuilder"))).before args0 about1 = true := code_word (m := ⟨10, 6⟩) (meth := k10m6) (c := k10c6) (by decide +kernel) rfl rfl rfl (by decide +kernel)
set_option maxRecDepth 65536 in
theorem w_c20 : (Jvm.Cond.code ({ cls := "java/lang/Integer", name := "stringSize", desc := "(I)I" } : Jvm.MethodName) jdk_33_method_13_code (4 : Nat) (Option.some Jvm.ClassFile.FieldType.int)).before args0 about1 = true := code_word (m := ⟨14, 1⟩) (meth := k14m1) (c := k14c1) (by decide +kernel) rfl rfl rfl (by decide +kernel)
set_option maxRecDepth 65536 in
theorem w_c21 : (Jvm.Cond.code ({ cls := "java/lang/Integer", name := "getChars", desc := "(II[B)I" } : Jvm.MethodName) jdk_33_method_12_code (7 : Nat) (Option.some Jvm.ClassFile.FieldType.int)).before args0 about1 = true := code_word (m := ⟨14, 0⟩) (meth := k14m0) (c := k14c0) (by decide +kernel) rfl rfl rfl (by decide +kernel)
set_option maxRecDepth 65536 in
theorem w_c22 : (Jvm.Cond.code ({ cls := "java/lang/AbstractStringBuilder", name := "newCapacity", desc := "(I)I" } : Jvm.MethodName) jdk_68_method_10_code (6 : Nat) (Option.some Jvm.ClassFile.FieldType.int)).before args0 about1 = true := code_word (m := ⟨10, 4⟩) (meth := k10m4) (c := k10c4) (by decide +kernel) rfl rfl rfl (by decide +kernel)
set_option maxRecDepth 65536 in
theorem w_c23 : (Jvm.Cond.code ({ cls := "jdk/internal/util/ArraysSupport", name := "newLength", desc := "(III)I" } : Jvm.MethodName) jdk_48_method_27_code (4 : Nat) (Option.some Jvm.ClassFile.FieldType.int)).before args0 about1 = true := code_word (m := ⟨16, 1⟩) (meth := k16m1) (c := k16c1) (by decide +kernel) rfl rfl rfl (by decide +kernel)
set_option maxRecDepth 65536 in
theorem w_c24 : (Jvm.Cond.code ({ cls := "java/lang/Math", name := "max", desc := "(II)I" } : Jvm.MethodName) jdk_29_method_65_code (2 : Nat) (Option.some Jvm.ClassFile.FieldType.int)).before args0 about1 = true := code_word (m := ⟨17, 1⟩) (meth := k17m1) (c := k17c1) (by decide +kernel) rfl rfl rfl (by decide +kernel)
set_option maxRecDepth 65536 in
theorem w_c25 : (Jvm.Cond.code ({ cls := "java/util/Arrays", name := "copyOf", desc := "([BI)[B" } : Jvm.MethodName) jdk_65_method_121_code (3 : Nat) (Option.some (Jvm.ClassFile.FieldType.array Jvm.ClassFile.FieldType.byte))).before args0 about1 = true := code_word (m := ⟨18, 1⟩) (meth := k18m1) (c := k18c1) (by decide +kernel) rfl rfl rfl (by decide +kernel)
set_option maxRecDepth 65536 in
theorem w_c26 : (Jvm.Cond.code ({ cls := "java/lang/Math", name := "min", desc := "(II)I" } : Jvm.MethodName) jdk_29_method_69_code (2 : Nat) (Option.some Jvm.ClassFile.FieldType.int)).before args0 about1 = true := code_word (m := ⟨17, 2⟩) (meth := k17m2) (c := k17c2) (by decide +kernel) rfl rfl rfl (by decide +kernel)
set_option maxRecDepth 65536 in
theorem w_c27 : (Jvm.Cond.code ({ cls := "java/lang/StringBuilder", name := "toString", desc := "()Ljava/lang/String;" } : Jvm.MethodName) jdk_67_method_42_code (1 : Nat) (Option.some (Jvm.ClassFile.FieldType.object "java/lang/String"))).before args0 about1 = true := code_word (m := ⟨11, 4⟩) (meth := k11m4) (c := k11c4) (by decide +kernel) rfl rfl rfl (by decide +kernel)
set_option maxRecDepth 65536 in
theorem w_c28 : (Jvm.Cond.code ({ cls := "java/lang/String", name := "<init>", desc := "(Ljava/lang/StringBuilder;)V" } : Jvm.MethodName) jdk_42_method_53_code (2 : Nat) (Option.none : Option Jvm.ClassFile.FieldType)).before args0 about1 = true := code_word (m := ⟨7, 2⟩) (meth := k7m2) (c := k7c2) (by decide +kernel) rfl rfl rfl (by decide +kernel)
set_option maxRecDepth 65536 in
theorem w_c29 : (Jvm.Cond.code ({ cls := "java/lang/String", name := "<init>", desc := "(Ljava/lang/AbstractStringBuilder;Ljava/lang/Void;)V" } : Jvm.MethodName) jdk_42_method_150_code (5 : Nat) (Option.none : Option Jvm.ClassFile.FieldType)).before args0 about1 = true := code_word (m := ⟨7, 6⟩) (meth := k7m6) (c := k7c6) (by decide +kernel) rfl rfl rfl (by decide +kernel)
set_option maxRecDepth 65536 in
theorem w_c30 : (Jvm.Cond.code ({ cls := "java/lang/AbstractStringBuilder", name := "getValue", desc := "()[B" } : Jvm.MethodName) jdk_68_method_64_code (1 : Nat) (Option.some (Jvm.ClassFile.FieldType.array Jvm.ClassFile.FieldType.byte))).before args0 about1 = true := code_word (m := ⟨10, 8⟩) (meth := k10m8) (c := k10c8) (by decide +kernel) rfl rfl rfl (by decide +kernel)
set_option maxRecDepth 65536 in
theorem w_c31 : (Jvm.Cond.code ({ cls := "java/lang/StringBuilder", name := "length", desc := "()I" } : Jvm.MethodName) jdk_67_method_93_code (1 : Nat) (Option.some Jvm.ClassFile.FieldType.int)).before args0 about1 = true := code_word (m := ⟨11, 5⟩) (meth := k11m5) (c := k11c5) (by decide +kernel) rfl rfl rfl (by decide +kernel)
set_option maxRecDepth 65536 in
theorem w_c32 : (Jvm.Cond.code ({ cls := "java/lang/AbstractStringBuilder", name := "length", desc := "()I" } : Jvm.MethodName) jdk_68_method_6_code (1 : Nat) (Option.some Jvm.ClassFile.FieldType.int)).before args0 about1 = true := code_word (m := ⟨10, 2⟩) (meth := k10m2) (c := k10c2) (by decide +kernel) rfl rfl rfl (by decide +kernel)
set_option maxRecDepth 65536 in
theorem w_c33 : (Jvm.Cond.code ({ cls := "java/util/Arrays", name := "copyOfRange", desc := "([BII)[B" } : Jvm.MethodName) jdk_65_method_132_code (3 : Nat) (Option.some (Jvm.ClassFile.FieldType.array Jvm.ClassFile.FieldType.byte))).before args0 about1 = true := code_word (m := ⟨18, 3⟩) (meth := k18m3) (c := k18c3) (by decide +kernel) rfl rfl rfl (by decide +kernel)
set_option maxRecDepth 65536 in
theorem w_c34 : (Jvm.Cond.code ({ cls := "java/util/Arrays", name := "copyOfRangeByte", desc := "([BII)[B" } : Jvm.MethodName) jdk_65_method_133_code (5 : Nat) (Option.some (Jvm.ClassFile.FieldType.array Jvm.ClassFile.FieldType.byte))).before args0 about1 = true := code_word (m := ⟨18, 4⟩) (meth := k18m4) (c := k18c4) (by decide +kernel) rfl rfl rfl (by decide +kernel)
set_option maxRecDepth 65536 in
theorem w_c35 : (Jvm.Cond.code ({ cls := "java/util/Arrays", name := "checkLength", desc := "(II)V" } : Jvm.MethodName) jdk_65_method_131_code (2 : Nat) (Option.none : Option Jvm.ClassFile.FieldType)).before args0 about1 = true := code_word (m := ⟨18, 2⟩) (meth := k18m2) (c := k18c2) (by decide +kernel) rfl rfl rfl (by decide +kernel)
set_option maxRecDepth 65536 in
theorem w_c36 : (Jvm.Cond.code ({ cls := "com/example/internode_coordination/internodecoordination/member/LogEntry", name := "<init>", desc := "(JIJJLjava/lang/String;Ljava/lang/String;)V" } : Jvm.MethodName) prog_37_method_2_code (10 : Nat) (Option.none : Option Jvm.ClassFile.FieldType)).before args0 about1 = true := code_word (m := ⟨8, 1⟩) (meth := k8m1) (c := k8c1) (by decide +kernel) rfl rfl rfl (by decide +kernel)
set_option maxRecDepth 65536 in
theorem w_c37 : (Jvm.Cond.code ({ cls := "com/example/internode_coordination/internodecoordination/member/LogEntry", name := "noOperation", desc := "(J)Lcom/example/internode_coordination/internodecoordination/member/LogEntry;" } : Jvm.MethodName) prog_37_method_4_code (2 : Nat) (Option.some (Jvm.ClassFile.FieldType.object "com/example/internode_coordination/internodecoordination/member/LogEntry"))).before args0 about1 = true := code_word (m := ⟨8, 2⟩) (meth := k8m2) (c := k8c2) (by decide +kernel) rfl rfl rfl (by decide +kernel)
set_option maxRecDepth 65536 in
theorem w_c38 : (Jvm.Cond.code ({ cls := "com/example/internode_coordination/internodecoordination/member/LogEntry", name := "isNoOperation", desc := "()Z" } : Jvm.MethodName) prog_37_method_10_code (1 : Nat) (Option.some Jvm.ClassFile.FieldType.boolean)).before args0 about1 = true := code_word (m := ⟨8, 3⟩) (meth := k8m3) (c := k8c3) (by decide +kernel) rfl rfl rfl (by decide +kernel)
set_option maxRecDepth 65536 in
theorem w_c39 : (Jvm.Cond.code ({ cls := "java/lang/String", name := "<init>", desc := "([C)V" } : Jvm.MethodName) jdk_42_method_3_code (2 : Nat) (Option.none : Option Jvm.ClassFile.FieldType)).before args0 about1 = true := code_word (m := ⟨7, 1⟩) (meth := k7m1) (c := k7c1) (by decide +kernel) rfl rfl rfl (by decide +kernel)
set_option maxRecDepth 65536 in
theorem w_c40 : (Jvm.Cond.code ({ cls := "java/lang/String", name := "<init>", desc := "([CIILjava/lang/Void;)V" } : Jvm.MethodName) jdk_42_method_149_code (6 : Nat) (Option.none : Option Jvm.ClassFile.FieldType)).before args0 about1 = true := code_word (m := ⟨7, 5⟩) (meth := k7m5) (c := k7c5) (by decide +kernel) rfl rfl rfl (by decide +kernel)
set_option maxRecDepth 65536 in
theorem w_c41 : (Jvm.Cond.code ({ cls := "java/lang/StringUTF16", name := "compress", desc := "([CII)[B" } : Jvm.MethodName) jdk_52_method_16_code (6 : Nat) (Option.some (Jvm.ClassFile.FieldType.array Jvm.ClassFile.FieldType.byte))).before args0 about1 = true := code_word (m := ⟨19, 2⟩) (meth := k19m2) (c := k19c2) (by decide +kernel) rfl rfl rfl (by decide +kernel)
set_option maxRecDepth 65536 in
theorem w_c42 : (Jvm.Cond.code ({ cls := "java/lang/StringUTF16", name := "compress", desc := "([CI[BII)I" } : Jvm.MethodName) jdk_52_method_21_code (7 : Nat) (Option.some Jvm.ClassFile.FieldType.int)).before args0 about1 = true := code_word (m := ⟨19, 3⟩) (meth := k19m3) (c := k19c3) (by decide +kernel) rfl rfl rfl (by decide +kernel)
set_option maxRecDepth 65536 in
theorem w_c43 : (Jvm.Cond.code ({ cls := "java/lang/StringUTF16", name := "coderFromArrayLen", desc := "([BI)B" } : Jvm.MethodName) jdk_52_method_15_code (2 : Nat) (Option.some Jvm.ClassFile.FieldType.byte)).before args0 about1 = true := code_word (m := ⟨19, 1⟩) (meth := k19m1) (c := k19c1) (by decide +kernel) rfl rfl rfl (by decide +kernel)
def codes1 : List Jvm.Cond := [Jvm.Cond.code x code maxLocals ret, Jvm.Cond.code ({ cls := "com/example/internode_coordination/internodecoordination/member/LogEntry", name := "<init>", desc := "(JIJJLjava/lang/String;)V" } : Jvm.MethodName) prog_37_method_1_code (9 : Nat) (Option.none : Option Jvm.ClassFile.FieldType), Jvm.Cond.code ({ cls := "java/lang/StringBuilder", name := "<init>", desc := "()V" } : Jvm.MethodName) jdk_67_method_1_code (1 : Nat) (Option.none : Option Jvm.ClassFile.FieldType), Jvm.Cond.code ({ cls := "java/lang/AbstractStringBuilder", name := "<init>", desc := "(I)V" } : Jvm.MethodName) jdk_68_method_2_code (2 : Nat) (Option.none : Option Jvm.ClassFile.FieldType), Jvm.Cond.code ({ cls := "java/lang/Object", name := "<init>", desc := "()V" } : Jvm.MethodName) object_method_1_code (1 : Nat) (Option.none : Option Jvm.ClassFile.FieldType), Jvm.Cond.code ({ cls := "java/lang/StringBuilder", name := "append", desc := "(J)Ljava/lang/StringBuilder;" } : Jvm.MethodName) jdk_67_method_16_code (3 : Nat) (Option.some (Jvm.ClassFile.FieldType.object "java/lang/StringBuilder")), Jvm.Cond.code ({ cls := "java/lang/AbstractStringBuilder", name := "append", desc := "(J)Ljava/lang/AbstractStringBuilder;" } : Jvm.MethodName) jdk_68_method_33_code (5 : Nat) (Option.some (Jvm.ClassFile.FieldType.object "java/lang/AbstractStringBuilder")), Jvm.Cond.code ({ cls := "java/lang/Long", name := "stringSize", desc := "(J)I" } : Jvm.MethodName) jdk_35_method_15_code (6 : Nat) (Option.some Jvm.ClassFile.FieldType.int), Jvm.Cond.code ({ cls := "java/lang/AbstractStringBuilder", name := "ensureCapacityInternal", desc := "(I)V" } : Jvm.MethodName) jdk_68_method_9_code (3 : Nat) (Option.none : Option Jvm.ClassFile.FieldType), Jvm.Cond.code ({ cls := "java/lang/AbstractStringBuilder", name := "isLatin1", desc := "()Z" } : Jvm.MethodName) jdk_68_method_68_code (1 : Nat) (Option.some Jvm.ClassFile.FieldType.boolean), Jvm.Cond.code ({ cls := "java/lang/Long", name := "getChars", desc := "(JI[B)I" } : Jvm.MethodName) jdk_35_method_14_code (11 : Nat) (Option.some Jvm.ClassFile.FieldType.int), Jvm.Cond.code ({ cls := "java/lang/StringBuilder", name := "append", desc := "(Ljava/lang/String;)Ljava/lang/StringBuilder;" } : Jvm.MethodName) jdk_67_method_7_code (2 : Nat) (Option.some (Jvm.ClassFile.FieldType.object "java/lang/StringBuilder")), Jvm.Cond.code ({ cls := "java/lang/AbstractStringBuilder", name := "append", desc := "(Ljava/lang/String;)Ljava/lang/AbstractStringBuilder;" } : Jvm.MethodName) jdk_68_method_22_code (3 : Nat) (Option.some (Jvm.ClassFile.FieldType.object "java/lang/AbstractStringBuilder")), Jvm.Cond.code ({ cls := "java/lang/String", name := "length", desc := "()I" } : Jvm.MethodName) jdk_42_method_54_code (1 : Nat) (Option.some Jvm.ClassFile.FieldType.int), Jvm.Cond.code ({ cls := "java/lang/String", name := "coder", desc := "()B" } : Jvm.MethodName) jdk_42_method_152_code (1 : Nat) (Option.some Jvm.ClassFile.FieldType.byte), Jvm.Cond.code ({ cls := "java/lang/AbstractStringBuilder", name := "putStringAt", desc := "(ILjava/lang/String;)V" } : Jvm.MethodName) jdk_68_method_73_code (3 : Nat) (Option.none : Option Jvm.ClassFile.FieldType), Jvm.Cond.code ({ cls := "java/lang/AbstractStringBuilder", name := "inflateIfNeededFor", desc := "(Ljava/lang/String;)V" } : Jvm.MethodName) jdk_68_method_71_code (2 : Nat) (Option.none : Option Jvm.ClassFile.FieldType), Jvm.Cond.code ({ cls := "java/lang/String", name := "getBytes", desc := "([BIB)V" } : Jvm.MethodName) jdk_42_method_147_code (4 : Nat) (Option.none : Option Jvm.ClassFile.FieldType), Jvm.Cond.code ({ cls := "java/lang/StringBuilder", name := "append", desc := "(I)Ljava/lang/StringBuilder;" } : Jvm.MethodName) jdk_67_method_15_code (2 : Nat) (Option.some (Jvm.ClassFile.FieldType.object "java/lang/StringBuilder")), Jvm.Cond.code ({ cls := "java/lang/AbstractStringBuilder", name := "append", desc := "(I)Ljava/lang/AbstractStringBuilder;" } : Jvm.MethodName) jdk_68_method_32_code (4 : Nat) (Option.some (Jvm.ClassFile.FieldType.object "java/lang/AbstractStringBuilder")), Jvm.Cond.code ({ cls := "java/lang/Integer", name := "stringSize", desc := "(I)I" } : Jvm.MethodName) jdk_33_method_13_code (4 : Nat) (Option.some Jvm.ClassFile.FieldType.int), Jvm.Cond.code ({ cls := "java/lang/Integer", name := "getChars", desc := "(II[B)I" } : Jvm.MethodName) jdk_33_method_12_code (7 : Nat) (Option.some Jvm.ClassFile.FieldType.int), Jvm.Cond.code ({ cls := "java/lang/AbstractStringBuilder", name := "newCapacity", desc := "(I)I" } : Jvm.MethodName) jdk_68_method_10_code (6 : Nat) (Option.some Jvm.ClassFile.FieldType.int), Jvm.Cond.code ({ cls := "jdk/internal/util/ArraysSupport", name := "newLength", desc := "(III)I" } : Jvm.MethodName) jdk_48_method_27_code (4 : Nat) (Option.some Jvm.ClassFile.FieldType.int), Jvm.Cond.code ({ cls := "java/lang/Math", name := "max", desc := "(II)I" } : Jvm.MethodName) jdk_29_method_65_code (2 : Nat) (Option.some Jvm.ClassFile.FieldType.int), Jvm.Cond.code ({ cls := "java/util/Arrays", name := "copyOf", desc := "([BI)[B" } : Jvm.MethodName) jdk_65_method_121_code (3 : Nat) (Option.some (Jvm.ClassFile.FieldType.array Jvm.ClassFile.FieldType.byte)), Jvm.Cond.code ({ cls := "java/lang/Math", name := "min", desc := "(II)I" } : Jvm.MethodName) jdk_29_method_69_code (2 : Nat) (Option.some Jvm.ClassFile.FieldType.int), Jvm.Cond.code ({ cls := "java/lang/StringBuilder", name := "toString", desc := "()Ljava/lang/String;" } : Jvm.MethodName) jdk_67_method_42_code (1 : Nat) (Option.some (Jvm.ClassFile.FieldType.object "java/lang/String")), Jvm.Cond.code ({ cls := "java/lang/String", name := "<init>", desc := "(Ljava/lang/StringBuilder;)V" } : Jvm.MethodName) jdk_42_method_53_code (2 : Nat) (Option.none : Option Jvm.ClassFile.FieldType), Jvm.Cond.code ({ cls := "java/lang/String", name := "<init>", desc := "(Ljava/lang/AbstractStringBuilder;Ljava/lang/Void;)V" } : Jvm.MethodName) jdk_42_method_150_code (5 : Nat) (Option.none : Option Jvm.ClassFile.FieldType), Jvm.Cond.code ({ cls := "java/lang/AbstractStringBuilder", name := "getValue", desc := "()[B" } : Jvm.MethodName) jdk_68_method_64_code (1 : Nat) (Option.some (Jvm.ClassFile.FieldType.array Jvm.ClassFile.FieldType.byte)), Jvm.Cond.code ({ cls := "java/lang/StringBuilder", name := "length", desc := "()I" } : Jvm.MethodName) jdk_67_method_93_code (1 : Nat) (Option.some Jvm.ClassFile.FieldType.int), Jvm.Cond.code ({ cls := "java/lang/AbstractStringBuilder", name := "length", desc := "()I" } : Jvm.MethodName) jdk_68_method_6_code (1 : Nat) (Option.some Jvm.ClassFile.FieldType.int), Jvm.Cond.code ({ cls := "java/util/Arrays", name := "copyOfRange", desc := "([BII)[B" } : Jvm.MethodName) jdk_65_method_132_code (3 : Nat) (Option.some (Jvm.ClassFile.FieldType.array Jvm.ClassFile.FieldType.byte)), Jvm.Cond.code ({ cls := "java/util/Arrays", name := "copyOfRangeByte", desc := "([BII)[B" } : Jvm.MethodName) jdk_65_method_133_code (5 : Nat) (Option.some (Jvm.ClassFile.FieldType.array Jvm.ClassFile.FieldType.byte)), Jvm.Cond.code ({ cls := "java/util/Arrays", name := "checkLength", desc := "(II)V" } : Jvm.MethodName) jdk_65_method_131_code (2 : Nat) (Option.none : Option Jvm.ClassFile.FieldType), Jvm.Cond.code ({ cls := "com/example/internode_coordination/internodecoordination/member/LogEntry", name := "<init>", desc := "(JIJJLjava/lang/String;Ljava/lang/String;)V" } : Jvm.MethodName) prog_37_method_2_code (10 : Nat) (Option.none : Option Jvm.ClassFile.FieldType), Jvm.Cond.code ({ cls := "com/example/internode_coordination/internodecoordination/member/LogEntry", name := "noOperation", desc := "(J)Lcom/example/internode_coordination/internodecoordination/member/LogEntry;" } : Jvm.MethodName) prog_37_method_4_code (2 : Nat) (Option.some (Jvm.ClassFile.FieldType.object "com/example/internode_coordination/internodecoordination/member/LogEntry")), Jvm.Cond.code ({ cls := "com/example/internode_coordination/internodecoordination/member/LogEntry", name := "isNoOperation", desc := "()Z" } : Jvm.MethodName) prog_37_method_10_code (1 : Nat) (Option.some Jvm.ClassFile.FieldType.boolean), Jvm.Cond.code ({ cls := "java/lang/String", name := "<init>", desc := "([C)V" } : Jvm.MethodName) jdk_42_method_3_code (2 : Nat) (Option.none : Option Jvm.ClassFile.FieldType), Jvm.Cond.code ({ cls := "java/lang/String", name := "<init>", desc := "([CIILjava/lang/Void;)V" } : Jvm.MethodName) jdk_42_method_149_code (6 : Nat) (Option.none : Option Jvm.ClassFile.FieldType), Jvm.Cond.code ({ cls := "java/lang/StringUTF16", name := "compress", desc := "([CII)[B" } : Jvm.MethodName) jdk_52_method_16_code (6 : Nat) (Option.some (Jvm.ClassFile.FieldType.array Jvm.ClassFile.FieldType.byte)), Jvm.Cond.code ({ cls := "java/lang/StringUTF16", name := "compress", desc := "([CI[BII)I" } : Jvm.MethodName) jdk_52_method_21_code (7 : Nat) (Option.some Jvm.ClassFile.FieldType.int), Jvm.Cond.code ({ cls := "java/lang/StringUTF16", name := "coderFromArrayLen", desc := "([BI)B" } : Jvm.MethodName) jdk_52_method_15_code (2 : Nat) (Option.some Jvm.ClassFile.FieldType.byte)]
set_option maxRecDepth 65536 in
theorem codes_eq : words1.filter isCode = codes1 := rfl
theorem w_codes : ∀ c ∈ words1.filter isCode, c.before args0 about1 = true := by
  rw [codes_eq]
  intro c hc
  simp only [codes1, List.mem_cons, List.not_mem_nil, or_false] at hc
  rcases hc with rfl | rfl | rfl | rfl | rfl | rfl | rfl | rfl | rfl | rfl | rfl | rfl | rfl | rfl | rfl | rfl | rfl | rfl | rfl | rfl | rfl | rfl | rfl | rfl | rfl | rfl | rfl | rfl | rfl | rfl | rfl | rfl | rfl | rfl | rfl | rfl | rfl | rfl | rfl | rfl | rfl | rfl | rfl | rfl
  · exact w_c0
  · exact w_c1
  · exact w_c2
  · exact w_c3
  · exact w_c4
  · exact w_c5
  · exact w_c6
  · exact w_c7
  · exact w_c8
  · exact w_c9
  · exact w_c10
  · exact w_c11
  · exact w_c12
  · exact w_c13
  · exact w_c14
  · exact w_c15
  · exact w_c16
  · exact w_c17
  · exact w_c18
  · exact w_c19
  · exact w_c20
  · exact w_c21
  · exact w_c22
  · exact w_c23
  · exact w_c24
  · exact w_c25
  · exact w_c26
  · exact w_c27
  · exact w_c28
  · exact w_c29
  · exact w_c30
  · exact w_c31
  · exact w_c32
  · exact w_c33
  · exact w_c34
  · exact w_c35
  · exact w_c36
  · exact w_c37
  · exact w_c38
  · exact w_c39
  · exact w_c40
  · exact w_c41
  · exact w_c42
  · exact w_c43
set_option maxRecDepth 65536 in
theorem w_t1 : (words1.take 24).all (fun c => isCode c || c.before args0 about1) = true := by decide +kernel
set_option maxRecDepth 65536 in
theorem w_t2 : ((words1.drop 24).take 24).all (fun c => isCode c || c.before args0 about1) = true := by decide +kernel
set_option maxRecDepth 65536 in
theorem w_t3 : (((words1.drop 24).drop 24).take 24).all (fun c => isCode c || c.before args0 about1) = true := by decide +kernel
set_option maxRecDepth 65536 in
theorem w_t4 : ((((words1.drop 24).drop 24).drop 24).take 24).all (fun c => isCode c || c.before args0 about1) = true := by decide +kernel
set_option maxRecDepth 65536 in
theorem w_t5 : (((((words1.drop 24).drop 24).drop 24).drop 24).take 24).all (fun c => isCode c || c.before args0 about1) = true := by decide +kernel
set_option maxRecDepth 65536 in
theorem w_t6 : ((((((words1.drop 24).drop 24).drop 24).drop 24).drop 24).take 24).all (fun c => isCode c || c.before args0 about1) = true := by decide +kernel
set_option maxRecDepth 65536 in
theorem w_t7 : (((((((words1.drop 24).drop 24).drop 24).drop 24).drop 24).drop 24).take 24).all (fun c => isCode c || c.before args0 about1) = true := by decide +kernel
set_option maxRecDepth 65536 in
theorem w_t8 : ((((((((words1.drop 24).drop 24).drop 24).drop 24).drop 24).drop 24).drop 24).take 24).all (fun c => isCode c || c.before args0 about1) = true := by decide +kernel
set_option maxRecDepth 65536 in
theorem w_t9 : (((((((((words1.drop 24).drop 24).drop 24).drop 24).drop 24).drop 24).drop 24).drop 24).take 24).all (fun c => isCode c || c.before args0 about1) = true := by decide +kernel
set_option maxRecDepth 65536 in
theorem w_t10 : ((((((((((words1.drop 24).drop 24).drop 24).drop 24).drop 24).drop 24).drop 24).drop 24).drop 24).take 24).all (fun c => isCode c || c.before args0 about1) = true := by decide +kernel
set_option maxRecDepth 65536 in
theorem w_t11 : ((((((((((words1.drop 24).drop 24).drop 24).drop 24).drop 24).drop 24).drop 24).drop 24).drop 24).drop 24).all (fun c => isCode c || c.before args0 about1) = true := by decide +kernel
theorem w_tables : (allAtoms (Jvm.Cond.code x code maxLocals ret :: tables_1)).before args0 about1 = true := by
  rw [allAtoms_all]
  show words1.all (fun c => c.before args0 about1) = true
  refine all_split ?_ w_codes
  rw [← List.take_append_drop 24 words1, List.all_append, w_t1, ← List.take_append_drop 24 (words1.drop 24), List.all_append, w_t2, ← List.take_append_drop 24 ((words1.drop 24).drop 24), List.all_append, w_t3, ← List.take_append_drop 24 (((words1.drop 24).drop 24).drop 24), List.all_append, w_t4, ← List.take_append_drop 24 ((((words1.drop 24).drop 24).drop 24).drop 24), List.all_append, w_t5, ← List.take_append_drop 24 (((((words1.drop 24).drop 24).drop 24).drop 24).drop 24), List.all_append, w_t6, ← List.take_append_drop 24 ((((((words1.drop 24).drop 24).drop 24).drop 24).drop 24).drop 24), List.all_append, w_t7, ← List.take_append_drop 24 (((((((words1.drop 24).drop 24).drop 24).drop 24).drop 24).drop 24).drop 24), List.all_append, w_t8, ← List.take_append_drop 24 ((((((((words1.drop 24).drop 24).drop 24).drop 24).drop 24).drop 24).drop 24).drop 24), List.all_append, w_t9, ← List.take_append_drop 24 (((((((((words1.drop 24).drop 24).drop 24).drop 24).drop 24).drop 24).drop 24).drop 24).drop 24), List.all_append, w_t10, w_t11]
  rfl
set_option maxRecDepth 65536 in
theorem w_rest : rest_1_c.before args0 about1 = true := by decide +kernel
set_option maxRecDepth 65536 in
theorem w_case : (Jvm.Cond.and given_1 narrow_1).before args0 about1 = true := by decide +kernel
set_option maxRecDepth 65536 in
theorem w_consts : constsHeld consts_1 about1 := Jvm.Lit.constsHeldB_iff.mp (by decide +kernel)
theorem w_applies : (headSpec (Jvm.Cond.code x code maxLocals ret :: tables_1) room_1).applies x e0.platform about1 = true :=
  (Spec.applies_iff w_frames).mpr ⟨w_running, w_runnable, w_alone, w_named, w_hears, w_ripe, w_room, w_tables⟩
theorem atStart : AtStart classFile x code maxLocals ret World_1 tables_1 room_1 Calls_1 rest_1 Pre_1 launch0 p0 e0 about1 theMethod args0 below0 :=
  ⟨lists_1, trivial, launch0.admits_env _ _ _, launch0.least_env, fairChoices_fair.cas, fairChoices_fair.clock, w_frames, w_args, w_heap, w_applies, ⟨w_consts, trivial⟩, w_rest, w_case⟩
end start1
theorem witness_1 : WitnessClaimed_1 := ⟨start1.p0, start1.e0, start1.about1, start1.theMethod, start1.args0, start1.below0, start1.atStart⟩
end Jvm.Pilot.@@N@@
