import JvmDerived
import JvmDerived.Pilot.@@N@@Statement
import JvmDerived.Pilot.@@N@@Code
set_option linter.unusedVariables false
set_option linter.unusedSimpArgs false
namespace Jvm.RoadKit
open Sem ClassFile Op Lib Jvm.Stand Jvm.Free Jvm.LawKit
section New
variable {p : Program} {l : Launch} {e : Env} {R : Room} {s : State} {m : MethodId} {args : Array Value} {below : List Frame} {meth : Method} {c : Code} {T : State} {locs : List Loc} {cells slots : Nat}
theorem retI (X : Stand p l e R s m args below meth c T locs cells slots) (hx : p.tables.exec = Jvm.exec) {pc : Nat} {Ls : Array Slot} {z : Int32} {rest : List Value} (hret : meth.sig.returnType = some .int) (hd : decode c.code pc = .ok (.ireturn, 1)) {fs : List Frame}
    (hl : ∀ (f : JFrame) (acts : List Action), f.method = m → f.locked = none → f.entered = [] → (doReturn e (T.setTop f) acts (some (.int z))).1 = T.setFrames fs) : Steps p.tables e below (T.setTop (mkF m pc Ls (.int z :: rest))) (T.setFrames fs) := by
  have hm' : T.vm.method? m = some meth := X.method'
  have hn : narrow .int (.int z) = .int z := rfl
  show Steps p.tables e below (T.setTop { method := m, pc := pc, locals := Ls, stack := _ :: rest, locked := none }) _
  jvm_step X.here [X.here.top, hx, hd, hm', hret, hn]
  first | (intro acts; rw [hl _ acts rfl rfl rfl]) | rw [hl _ _ rfl rfl rfl]
  exact Steps.refl _
end New
end Jvm.RoadKit
namespace Jvm.Pilot.@@N@@
open Jvm Jvm.ClassFile Sem Op Lib Jvm.Free Jvm.Stand Jvm.LawKit Jvm.RoadKit Bundle Jvm.Pilot.@@N@@.Jvm.D
namespace Half
open Jvm Jvm.FP.Core
open Jvm.RoadKit Jvm.Free Jvm.LawKit Sem Op Lib
set_option maxRecDepth 65536
def own_half (k : Int64) : UInt64 := Jvm.FP.dmul (Jvm.FP.l2d k) 4602678819172646912
def own_hz (i : Nat) : Bool := decide (zval b64 (val64 (own_half (Int64.ofInt ((i : Int) - 2099)))) = ((i : Int) - 2099) * 2 ^ 1073)
def own_hall : Nat → Nat → Bool
  | 0, _ => true
  | n + 1, j => own_hz (j + n) && own_hall n j
theorem own_hall_at : ∀ (n j i : Nat), own_hall n j = true → j ≤ i → i < j + n → own_hz i = true
  | 0, _, _, _, h1, h2 => by omega
  | n + 1, j, i, h, h1, h2 => by
    simp only [own_hall, Bool.and_eq_true] at h
    by_cases e : i = j + n
    · rw [e]; exact h.1
    · exact own_hall_at n j i h.2 h1 (by omega)
theorem own_hall1 : own_hall 1400 0 = true := by decide +kernel
theorem own_hall2 : own_hall 1400 1400 = true := by decide +kernel
theorem own_hall3 : own_hall 1399 2800 = true := by decide +kernel
def own_K (k : Int64) : Prop := -2099 ≤ k.toInt ∧ k.toInt ≤ 2099
def own_B (N : Int) (x : Int64) : Prop := 0 ≤ x.toInt ∧ x.toInt ≤ N
theorem own_hzval {k : Int64} (h : own_K k) : zval b64 (val64 (own_half k)) = k.toInt * 2 ^ 1073 := by
  obtain ⟨h1, h2⟩ := h
  obtain ⟨i, hi⟩ : ∃ i : Nat, (i : Int) = k.toInt + 2099 := ⟨(k.toInt + 2099).toNat, by omega⟩
  have q : own_hz i = true := by
    by_cases a : i < 1400
    · exact own_hall_at _ _ _ own_hall1 (by omega) (by omega)
    · by_cases b : i < 2800
      · exact own_hall_at _ _ _ own_hall2 (by omega) (by omega)
      · exact own_hall_at _ _ _ own_hall3 (by omega) (by omega)
  have q2 := of_decide_eq_true q
  rw [show ((i : Int) - 2099) = k.toInt by omega, Int64.ofInt_toInt] at q2
  exact q2
theorem own_half_fin (k : Int64) : val64 (own_half k) ≠ .nan :=
  (notNaN_iff _).mp (dmul_out (l2d_fin k) (by rw [fin_bits]; decide))
theorem own_half_nn (k : Int64) : Jvm.Free.Fl.NoNaN64 (own_half k) :=
  Jvm.Free.Fl.dmul_out (Jvm.Free.Fl.l2d_fin k) (by unfold Jvm.Free.Fl.Fin64; decide)
theorem own_lz {t : Int64} (h : B53 t) : zval b64 (val64 (Jvm.FP.l2d t)) = (t + t).toInt * 2 ^ 1073 := by
  have := whole_zval good_b64 (val64_fits _) (l2d_int (a := t) (by have := h.1; have := h.2; omega))
  have a := add64 h h
  rw [show (-b64.qmin).toNat = 1073 + 1 by decide, Nat.pow_succ, Int.natCast_mul, Int.mul_comm ((2 ^ 1073 : Nat) : Int), ← Int.mul_assoc, show t.toInt * ((2 : Nat) : Int) = (t + t).toInt by omega] at this
  exact this
theorem own_cmpv {x y : UInt64} {a b : Int64} (hx : val64 x ≠ .nan) (hy : val64 y ≠ .nan) (ex : zval b64 (val64 x) = a.toInt * 2 ^ 1073) (ey : zval b64 (val64 y) = b.toInt * 2 ^ 1073) (o : Jvm.ClassFile.CmpOp) : cmpValue (Jvm.FP.dcmp x y) o = lcmpW a b := by
  have e : Jvm.FP.dcmp x y = some (compare (a.toInt * 2 ^ 1073) (b.toInt * 2 ^ 1073)) := by
    have := dcmp_zval hx hy
    rw [ex, ey] at this
    exact this
  rw [e]
  have p : (0 : Int) < 2 ^ 1073 := Int.pow_pos (by decide)
  generalize (2 : Int) ^ 1073 = P at p
  rw [compare_ite]
  simp only [lcmpW, GT.gt, Int64.lt_iff_toInt_lt, ← Int64.toInt_inj]
  by_cases h1 : a.toInt < b.toInt
  · rw [if_pos (Int.mul_lt_mul_of_pos_right h1 p), if_neg (by omega), if_neg (by omega)]; cases o <;> rfl
  · have n1 : ¬ a.toInt * P < b.toInt * P := fun q => h1 (Int.lt_of_mul_lt_mul_right q (Int.le_of_lt p))
    by_cases h2 : a.toInt = b.toInt
    · rw [if_neg n1, if_pos (by rw [h2]), if_neg (by omega), if_pos h2]; cases o <;> rfl
    · have n2 : ¬ a.toInt * P = b.toInt * P := fun q => h2 (Int.eq_of_mul_eq_mul_right (by omega) q)
      rw [if_neg n1, if_neg n2, if_pos (by omega)]; cases o <;> rfl
theorem own_cmp {t k : Int64} {N : Int} (ht : own_B N t) (hN : N ≤ 1020) (hk : own_K k) (o : Jvm.ClassFile.CmpOp) : cmpValue (Jvm.FP.dcmp (Jvm.FP.l2d t) (own_half k)) o = lcmpW (t + t) k :=
  own_cmpv (DFin.ne_nan (l2d_fin t)) (own_half_fin k) (own_lz ⟨by have := ht.1; omega, by have := ht.2; omega⟩) (own_hzval hk) o
theorem own_cmp0 {k : Int64} (hk : own_K k) (o : Jvm.ClassFile.CmpOp) : cmpValue (Jvm.FP.dcmp (own_half k) (Jvm.FP.l2d 0)) o = lcmpW k 0 :=
  own_cmpv (own_half_fin k) (DFin.ne_nan (l2d_fin 0)) (own_hzval hk) (own_lz (t := 0) ⟨by decide, by decide⟩) o
theorem own_Badd {M N : Int} {x y : Int64} (hx : own_B M x) (hy : own_B N y) (h : M + N ≤ 1020) : own_B (M + N) (x + y) := by
  obtain ⟨x1, x2⟩ := hx; obtain ⟨y1, y2⟩ := hy
  have a := add64 (a := x) (b := y) ⟨by omega, by omega⟩ ⟨by omega, by omega⟩
  exact ⟨by omega, by omega⟩
theorem own_B0 : own_B 0 0 := ⟨by decide, by decide⟩
theorem own_add {M N : Int} {x y : Int64} (hx : own_B M x) (hy : own_B N y) (h : M + N ≤ 1020) : Jvm.FP.dadd (Jvm.FP.l2d x) (Jvm.FP.l2d y) = Jvm.FP.l2d (x + y) := by
  obtain ⟨x1, x2⟩ := hx; obtain ⟨y1, y2⟩ := hy
  exact dadd_w ⟨by omega, by omega⟩ ⟨by omega, by omega⟩
theorem own_Bm {z x : Int64} (h : z = (x &&& 255)) : own_B 255 z := by
  rw [h]
  have := c_maskL x 255 8 (by decide) (by decide)
  exact ⟨by omega, by omega⟩
end Half
open Half
/-! the goal of a walk, gone through forwards: from the state A the run comes to an end that answers R -/
def own_G (tb : Tables) (e : Env) (below : List Frame) (R : State → Outcome → Prop) (A : State) : Prop := ∃ t o, Steps tb e below A t ∧ t.status = .running ∧ Ended t below o ∧ R t o
theorem own_in {tb : Tables} {e : Env} {below : List Frame} {R : State → Outcome → Prop} {A : State} (h : own_G tb e below R A) : ∃ t o, Steps tb e below A t ∧ t.status = .running ∧ Ended t below o ∧ R t o := h
theorem own_pre {tb : Tables} {e : Env} {below : List Frame} {R : State → Outcome → Prop} {A B : State} (k : ∀ t, Steps tb e below B t → Steps tb e below A t) (h : own_G tb e below R B) : own_G tb e below R A := by
  obtain ⟨t, o, h1, h2⟩ := h
  exact ⟨t, o, k t h1, h2⟩
/-! a part of a walk: from A the run comes to some state that answers P -/
def own_J (tb : Tables) (e : Env) (below : List Frame) (P : State → Prop) (A : State) : Prop := ∃ B, P B ∧ ∀ t, Steps tb e below B t → Steps tb e below A t
theorem own_preJ {tb : Tables} {e : Env} {below : List Frame} {P : State → Prop} {A B : State} (k : ∀ t, Steps tb e below B t → Steps tb e below A t) (h : own_J tb e below P B) : own_J tb e below P A := by
  obtain ⟨C, h1, h2⟩ := h
  exact ⟨C, h1, fun t q => k t (h2 t q)⟩
theorem own_more {p : Program} {l : Launch} {e : Env} {R : Room} {s : State} {m : MethodId} {args : Array Value} {below : List Frame} {meth : Method} {c : Code} {T : State} {locs : List Loc} {cells slots cells' slots' : Nat} (X : Stand p l e R s m args below meth c T locs cells slots) (h : cells ≤ cells') (h' : slots ≤ slots') : Stand p l e R s m args below meth c T locs cells' slots' :=
  { X with same := X.same.mono h h' }
theorem own_hide {p : Program} {l : Launch} {e : Env} {R : Room} {s : State} {m : MethodId} {args : Array Value} {below : List Frame} {meth : Method} {c : Code} {T : State} {locs : List Loc} {cells slots n0 : Nat} (X : Stand p l e R s m args below meth c T locs cells slots) (N : Fr n0 locs) : ∃ L, Stand p l e R s m args below meth c T L cells slots ∧ Fr n0 L := ⟨_, X, N⟩
theorem ow {d : Jvm.Cond} (i : Nat) (h : tables_1[i]? = some d) : d ∈ tables_1 := List.mem_of_getElem? h
theorem own_dc0 : FP.dconst0 = FP.l2d (0 : Int64) := by rw [l2d_zero]; rfl
theorem own_cmpd {d : UInt64} {t k : Int64} {N : Int} (hd : d = own_half k) (ht : own_B N t) (hN : N ≤ 1020) (hk : own_K k) (o : Jvm.ClassFile.CmpOp) : cmpValue (FP.dcmp (FP.l2d t) d) o = lcmpW (t + t) k := by rw [hd]; exact own_cmp ht hN hk o
theorem own_cmp0d {d : UInt64} {k : Int64} (hd : d = own_half k) (hk : own_K k) (o : Jvm.ClassFile.CmpOp) : cmpValue (FP.dcmp d (FP.l2d (0 : Int64))) o = lcmpW k 0 := by rw [hd]; exact own_cmp0 hk o
def own_get8 (w0 w1 w2 w3 w4 w5 w6 w7 : Int64) (j : Int32) : Int64 := if j = 0 then w0 else if j = 1 then w1 else if j = 2 then w2 else if j = 3 then w3 else if j = 4 then w4 else if j = 5 then w5 else if j = 6 then w6 else w7
def own_W (w0 w1 w2 w3 w4 w5 w6 w7 : Int64) : Prop := own_B 255 w0 ∧ own_B 255 w1 ∧ own_B 255 w2 ∧ own_B 255 w3 ∧ own_B 255 w4 ∧ own_B 255 w5 ∧ own_B 255 w6 ∧ own_B 255 w7
def own_R (r : Int32) : Prop := ¬ r < 0 ∧ r < 8
def own_RN (N : Int) (r : Int32) : Prop := 0 ≤ r.toInt ∧ r.toInt ≤ N
theorem own_c : (0 : Int32).toInt = 0 ∧ (1 : Int32).toInt = 1 ∧ (2 : Int32).toInt = 2 ∧ (3 : Int32).toInt = 3 ∧ (4 : Int32).toInt = 4 ∧ (5 : Int32).toInt = 5 ∧ (6 : Int32).toInt = 6 ∧ (7 : Int32).toInt = 7 ∧ (8 : Int32).toInt = 8 := by decide
theorem own_eight {j : Int32} (h : own_R j) : j = 0 ∨ j = 1 ∨ j = 2 ∨ j = 3 ∨ j = 4 ∨ j = 5 ∨ j = 6 ∨ j = 7 := by
  obtain ⟨h0, h8⟩ := h
  have c := own_c
  simp only [Int32.lt_iff_toInt_lt, ← Int32.toInt_inj] at *; omega
theorem own_getL8 {w0 w1 w2 w3 w4 w5 w6 w7 : Int64} {j : Int32} {d : Value} (h : own_R j) : ([.double (FP.l2d w0), .double (FP.l2d w1), .double (FP.l2d w2), .double (FP.l2d w3), .double (FP.l2d w4), .double (FP.l2d w5), .double (FP.l2d w6), .double (FP.l2d w7)] : List Value).getD j.toNatClampNeg d = .double (FP.l2d (own_get8 w0 w1 w2 w3 w4 w5 w6 w7 j)) := by
  rcases own_eight h with rfl | rfl | rfl | rfl | rfl | rfl | rfl | rfl <;> rfl
theorem own_Bget {w0 w1 w2 w3 w4 w5 w6 w7 : Int64} {j : Int32} (h : own_W w0 w1 w2 w3 w4 w5 w6 w7) : own_B 255 (own_get8 w0 w1 w2 w3 w4 w5 w6 w7 j) := by
  obtain ⟨b0, b1, b2, b3, b4, b5, b6, b7⟩ := h
  unfold own_get8
  repeat' split
  all_goals assumption
theorem own_Ki (x : Int32) : own_K ((x % (2100 : Int32)).toInt64) := by
  have r := c_irem x 2100 2100 (by decide)
  unfold own_K
  rw [Int32.toInt_toInt64]
  by_cases h : 0 ≤ x.toInt
  · have := r.1 h; omega
  · have := r.2 (by omega); omega
theorem own_n5 (x : Int32) : ((x &&& (7 : Int32)) % (5 : Int32)) = 0 ∨ ((x &&& (7 : Int32)) % (5 : Int32)) = 1 ∨ ((x &&& (7 : Int32)) % (5 : Int32)) = 2 ∨ ((x &&& (7 : Int32)) % (5 : Int32)) = 3 ∨ ((x &&& (7 : Int32)) % (5 : Int32)) = 4 := by
  have m := c_mask x 7 3 (by decide) (by decide)
  have r := (c_irem (x &&& 7) 5 5 (by decide)).1
  have c := own_c
  simp only [← Int32.toInt_inj]; omega
theorem own_R0 {z b : Int32} (h : z = (b &&& (1 : Int32))) : own_RN 1 z := by
  have m := c_mask b 1 1 (by decide) (by decide)
  rw [h]; exact ⟨by omega, by omega⟩
theorem own_Rs {z y b : Int32} {N : Int} (hy : own_RN N y) (h : z = ((y + (1 : Int32)) + (b &&& (1 : Int32)))) (hN : N ≤ 5) : own_RN (N + 2) z := by
  obtain ⟨y1, y2⟩ := hy
  have m := c_mask b 1 1 (by decide) (by decide)
  have c := own_c
  have a1 := c_iadd y 1
  have a2 := c_iadd (y + 1) (b &&& 1)
  have r1 := rng32 (y + 1)
  have r2 := rng32 ((y + 1) + (b &&& 1))
  rw [h]; constructor <;> omega
theorem own_Rof {z : Int32} {N : Int} (h : own_RN N z) (hN : N ≤ 7) : own_R z := by
  obtain ⟨h1, h2⟩ := h
  have c := own_c
  constructor <;> rw [Int32.lt_iff_toInt_lt] <;> omega
theorem own_getE {w0 w1 w2 w3 w4 w5 w6 w7 e : Int64} {j : Int32} {d : Value} (h : own_R j) (he : e = own_get8 w0 w1 w2 w3 w4 w5 w6 w7 j) : ([.double (FP.l2d w0), .double (FP.l2d w1), .double (FP.l2d w2), .double (FP.l2d w3), .double (FP.l2d w4), .double (FP.l2d w5), .double (FP.l2d w6), .double (FP.l2d w7)] : List Value).getD j.toNatClampNeg d = .double (FP.l2d e) := by rw [he]; exact own_getL8 h
theorem own_BgetE {w0 w1 w2 w3 w4 w5 w6 w7 e : Int64} {j : Int32} (h : own_W w0 w1 w2 w3 w4 w5 w6 w7) (he : e = own_get8 w0 w1 w2 w3 w4 w5 w6 w7 j) : own_B 255 e := by rw [he]; exact own_Bget h
theorem own_Bz {P : Prop} [Decidable P] {z x : Int64} {N : Int} (h : z = (if P then x else (0 : Int64))) (hx : own_B N x) : own_B N z := by
  have := hx.1; have := hx.2
  rw [h]; split
  · exact hx
  · exact ⟨by decide, by show (0 : Int) ≤ N; omega⟩
theorem own_Rj {P : Prop} [Decidable P] {z r : Int32} (h : z = (if P then r else (0 : Int32))) (hr : own_R r) : own_R z := by
  rw [h]; split
  · exact hr
  · exact ⟨by decide, by decide⟩
def own_n (n : Int32) : Prop := ¬ n < (0 : Int32) ∧ ¬ (4 : Int32) < n
def own_N (n : Int32) : Prop := ¬ n < (1 : Int32) ∧ ¬ (5 : Int32) < n
theorem own_cap4 {n : Int32} (h : own_n n) : n.toNatClampNeg ≤ 4 := by
  have c := own_c
  obtain ⟨h0, h4⟩ := h
  simp only [Int32.lt_iff_toInt_lt, Int32.toNatClampNeg] at *; omega
theorem own_five {n : Int32} (h : own_n n) : n = (0 : Int32) ∨ n = (1 : Int32) ∨ n = (2 : Int32) ∨ n = (3 : Int32) ∨ n = (4 : Int32) := by
  have c := own_c
  obtain ⟨h0, h4⟩ := h
  simp only [Int32.lt_iff_toInt_lt, ← Int32.toInt_inj] at *; omega
theorem own_nn (x : Int32) : own_n ((x &&& (7 : Int32)) % (5 : Int32)) := by
  have m := c_mask x 7 3 (by decide) (by decide)
  have r := (c_irem (x &&& 7) 5 5 (by decide)).1
  have c := own_c
  constructor <;> rw [Int32.lt_iff_toInt_lt] <;> omega
theorem own_ltle {n N j : Int32} (h : n < N) (hj : ¬ n < j) : j < N := by
  rw [Int32.lt_iff_toInt_lt] at *; omega
theorem own_neq {o x y n : Addr} (h : x = y ∨ n ≤ x) (hy : o ≠ y) (ho : o < n) : o ≠ x := by
  intro q; subst q
  rcases h with h | h
  · exact hy h
  · exact absurd ho (Nat.not_lt.mpr h)
theorem own_frs {x y n a : Addr} (h : x = y ∨ n ≤ x) (hy : a ≤ y) (ha : a ≤ n) : a ≤ x := by
  rcases h with h | h
  · rw [h]; exact hy
  · exact Nat.le_trans ha h
theorem own_tI {M N : Int} {x y : Int64} (hx : own_B M x) (hy : own_B N y) (h : M + N ≤ 2040) : (x + y).toInt = x.toInt + y.toInt := by
  obtain ⟨x1, x2⟩ := hx; obtain ⟨y1, y2⟩ := hy
  exact add64 ⟨by omega, by omega⟩ ⟨by omega, by omega⟩
theorem d1_0 : decode method_3_code 0 = .ok (.iload_n 0, 1) := by decide +kernel
theorem d1_1 : decode method_3_code 1 = .ok (.iconst 1, 1) := by decide +kernel
theorem d1_2 : decode method_3_code 2 = .ok (.iand, 1) := by decide +kernel
theorem d1_3 : decode method_3_code 3 = .ok (.istore_n 2, 1) := by decide +kernel
theorem d1_4 : decode method_3_code 4 = .ok (.iload_n 2, 1) := by decide +kernel
theorem d1_5 : decode method_3_code 5 = .ok (.iconst 1, 1) := by decide +kernel
theorem d1_6 : decode method_3_code 6 = .ok (.iadd, 1) := by decide +kernel
theorem d1_7 : decode method_3_code 7 = .ok (.iload_n 0, 1) := by decide +kernel
theorem d1_8 : decode method_3_code 8 = .ok (.iconst 1, 1) := by decide +kernel
theorem d1_9 : decode method_3_code 9 = .ok (.iushr, 1) := by decide +kernel
theorem d1_10 : decode method_3_code 10 = .ok (.iconst 1, 1) := by decide +kernel
theorem d1_11 : decode method_3_code 11 = .ok (.iand, 1) := by decide +kernel
theorem d1_12 : decode method_3_code 12 = .ok (.iadd, 1) := by decide +kernel
theorem d1_13 : decode method_3_code 13 = .ok (.istore_n 3, 1) := by decide +kernel
theorem d1_14 : decode method_3_code 14 = .ok (.iload_n 3, 1) := by decide +kernel
theorem d1_15 : decode method_3_code 15 = .ok (.iconst 1, 1) := by decide +kernel
theorem d1_16 : decode method_3_code 16 = .ok (.iadd, 1) := by decide +kernel
theorem d1_17 : decode method_3_code 17 = .ok (.iload_n 0, 1) := by decide +kernel
theorem d1_18 : decode method_3_code 18 = .ok (.iconst 2, 1) := by decide +kernel
theorem d1_19 : decode method_3_code 19 = .ok (.iushr, 1) := by decide +kernel
theorem d1_20 : decode method_3_code 20 = .ok (.iconst 1, 1) := by decide +kernel
theorem d1_21 : decode method_3_code 21 = .ok (.iand, 1) := by decide +kernel
theorem d1_22 : decode method_3_code 22 = .ok (.iadd, 1) := by decide +kernel
theorem d1_23 : decode method_3_code 23 = .ok (.istore 4, 2) := by decide +kernel
theorem d1_25 : decode method_3_code 25 = .ok (.iload 4, 2) := by decide +kernel
theorem d1_27 : decode method_3_code 27 = .ok (.iconst 1, 1) := by decide +kernel
theorem d1_28 : decode method_3_code 28 = .ok (.iadd, 1) := by decide +kernel
theorem d1_29 : decode method_3_code 29 = .ok (.iload_n 0, 1) := by decide +kernel
theorem d1_30 : decode method_3_code 30 = .ok (.iconst 3, 1) := by decide +kernel
theorem d1_31 : decode method_3_code 31 = .ok (.iushr, 1) := by decide +kernel
theorem d1_32 : decode method_3_code 32 = .ok (.iconst 1, 1) := by decide +kernel
theorem d1_33 : decode method_3_code 33 = .ok (.iand, 1) := by decide +kernel
theorem d1_34 : decode method_3_code 34 = .ok (.iadd, 1) := by decide +kernel
theorem d1_35 : decode method_3_code 35 = .ok (.istore 5, 2) := by decide +kernel
theorem d1_37 : decode method_3_code 37 = .ok (.iload_n 1, 1) := by decide +kernel
theorem d1_38 : decode method_3_code 38 = .ok (.newarray .int, 2) := by decide +kernel
theorem d1_40 : decode method_3_code 40 = .ok (.astore 6, 2) := by decide +kernel
theorem d1_42 : decode method_3_code 42 = .ok (.iload_n 1, 1) := by decide +kernel
theorem d1_43 : decode method_3_code 43 = .ok (.ifCond .le 8, 3) := by decide +kernel
theorem d1_46 : decode method_3_code 46 = .ok (.aload 6, 2) := by decide +kernel
theorem d1_48 : decode method_3_code 48 = .ok (.iconst 0, 1) := by decide +kernel
theorem d1_49 : decode method_3_code 49 = .ok (.iload_n 2, 1) := by decide +kernel
theorem d1_50 : decode method_3_code 50 = .ok (.iastore, 1) := by decide +kernel
theorem d1_51 : decode method_3_code 51 = .ok (.iload_n 1, 1) := by decide +kernel
theorem d1_52 : decode method_3_code 52 = .ok (.iconst 1, 1) := by decide +kernel
theorem d1_53 : decode method_3_code 53 = .ok (.if_icmp .le 8, 3) := by decide +kernel
theorem d1_56 : decode method_3_code 56 = .ok (.aload 6, 2) := by decide +kernel
theorem d1_58 : decode method_3_code 58 = .ok (.iconst 1, 1) := by decide +kernel
theorem d1_59 : decode method_3_code 59 = .ok (.iload_n 3, 1) := by decide +kernel
theorem d1_60 : decode method_3_code 60 = .ok (.iastore, 1) := by decide +kernel
theorem d1_61 : decode method_3_code 61 = .ok (.iload_n 1, 1) := by decide +kernel
theorem d1_62 : decode method_3_code 62 = .ok (.iconst 2, 1) := by decide +kernel
theorem d1_63 : decode method_3_code 63 = .ok (.if_icmp .le 9, 3) := by decide +kernel
theorem d1_66 : decode method_3_code 66 = .ok (.aload 6, 2) := by decide +kernel
theorem d1_68 : decode method_3_code 68 = .ok (.iconst 2, 1) := by decide +kernel
theorem d1_69 : decode method_3_code 69 = .ok (.iload 4, 2) := by decide +kernel
theorem d1_71 : decode method_3_code 71 = .ok (.iastore, 1) := by decide +kernel
theorem d1_72 : decode method_3_code 72 = .ok (.iload_n 1, 1) := by decide +kernel
theorem d1_73 : decode method_3_code 73 = .ok (.iconst 3, 1) := by decide +kernel
theorem d1_74 : decode method_3_code 74 = .ok (.if_icmp .le 9, 3) := by decide +kernel
theorem d1_77 : decode method_3_code 77 = .ok (.aload 6, 2) := by decide +kernel
theorem d1_79 : decode method_3_code 79 = .ok (.iconst 3, 1) := by decide +kernel
theorem d1_80 : decode method_3_code 80 = .ok (.iload 5, 2) := by decide +kernel
theorem d1_82 : decode method_3_code 82 = .ok (.iastore, 1) := by decide +kernel
theorem d1_83 : decode method_3_code 83 = .ok (.aload 6, 2) := by decide +kernel
theorem d1_85 : decode method_3_code 85 = .ok (.areturn, 1) := by decide +kernel
theorem pn_1 : plainName "com/example/nearjoin/nearjoin/join/PrefixCutStartPinLaw" = true := by first | (simp [plainName, overriddenIn]; done) | decide +kernel
theorem ef_1 (m : MethodId) (x0 : Int32) (x1 : Int32) : entryFrame m #[(.int x0), (.int x1)] 7 = mkF m 0 #[.val (.int x0), .val (.int x1), .unset, .unset, .unset, .unset, .unset] [] := by first | (simp [entryFrame, mkF, argsToLocals, Value.category]; done) | rfl
def Q1 (Z : State) (p1 : Int32) (p2 : Int32) (h0 : Heap) (n0 : Nat) (v : Option Value) (h : Heap) (L : List Loc) : Prop := ∃ (b : Addr) (k : ClassId) (s0 s1 s2 s3 : Int32), v = some (.ref b) ∧ Fr n0 L ∧ Keep h0 h [] ∧ n0 ≤ b ∧ h0.size ≤ b ∧ Arv Z h b k .int p2 [.int s0, .int s1, .int s2, .int s3] (.int (0 : Int32)) ∧ own_R s0 ∧ own_R s1 ∧ own_R s2 ∧ own_R s3
set_option maxRecDepth 65536 in
set_option maxHeartbeats 40000000 in
theorem rm1 (l : Launch) (Z : State) (a0 : Array Value) (hw : ∀ d ∈ tables_1, d.before a0 Z = true) (ws : List Jvm.Cond) (p1 : Int32) (p2 : Int32) (h0 : Heap) (n0 : Nat) (Z0 : n0 ≤ h0.size) (hn : own_n p2) :
    MetFree l (⟨"com/example/nearjoin/nearjoin/join/PrefixCutStartPinLaw", "bag", "(II)[I"⟩ : MethodName) (head1 (Jvm.Cond.code (⟨"com/example/nearjoin/nearjoin/join/PrefixCutStartPinLaw", "bag", "(II)[I"⟩ : MethodName) method_3_code 7 (some (.array .int)) :: ws) ({ frames := 0, cells := 1, slots := 4, locals := 0 } : Room)) (fun a U => a = #[(.int p1), (.int p2)] ∧ Z.Warmed39 U.vm ∧ U.heap = h0) (fun _ _ _ _ _ => True) (fun _ U o U' => ∃ v L, o = .returned v ∧ Q1 Z p1 p2 h0 n0 v U'.heap L ∧ FrameEnd U o U' L ({ frames := 0, cells := 1, slots := 4, locals := 0 } : Room).cells ({ frames := 0, cells := 1, slots := 4, locals := 0 } : Room).slots) := by
  refine MetFree.of_bodySF (plainFor_of_name pn_1) hisR ?_
  intro p e s m args below meth c s₁ Bd hml0 hP hK
  obtain ⟨rfl, hZ, hh⟩ := hP
  have hx := Bd.exec
  have hby := Bd.bytes
  have hml : c.maxLocals = 7 := hml0
  have hown : s.vm.findClass "com/example/nearjoin/nearjoin/join/PrefixCutStartPinLaw" = some m.cls := findClass_of_methodNamed Bd.named
  have hnm := (name_of_methodNamed Bd.named Bd.method).1
  have X0 : Stand p l e ({ frames := 0, cells := 1, slots := 4, locals := 0 } : Room) s m #[(.int p1), (.int p2)] below meth c s₁ [] 0 0 := Stand.of_body Bd
  have e0 : s₁.heap = h0 := by rw [← hh, Bd.state]; rfl
  have N0 := Fr.nil n0
  apply own_in
  refine own_pre (B := s₁.setTop (mkF m 0 #[.val (.int p1), .val (.int p2), .unset, .unset, .unset, .unset, .unset] [])) (fun t k => castTop (ef_1 m p1 p2) k) ?_
  refine own_pre (B := s₁.setTop (mkF m 1 #[.val (.int p1), .val (.int p2), .unset, .unset, .unset, .unset, .unset] [(.int p1)])) (fun t k => XS.iloadN X0.here hx rfl (hb hby d1_0) rfl k) ?_
  refine own_pre (B := s₁.setTop (mkF m 2 #[.val (.int p1), .val (.int p2), .unset, .unset, .unset, .unset, .unset] [(.int (1 : Int32)), (.int p1)])) (fun t k => XS.iconst X0.here hx rfl (hb hby d1_1) k) ?_
  refine own_pre (B := s₁.setTop (mkF m 3 #[.val (.int p1), .val (.int p2), .unset, .unset, .unset, .unset, .unset] [(.int (p1 &&& (1 : Int32)))])) (fun t k => XS.iand X0.here hx rfl (hb hby d1_2) rfl k) ?_
  refine own_pre (B := s₁.setTop (mkF m 4 #[.val (.int p1), .val (.int p2), .val (.int (p1 &&& (1 : Int32))), .unset, .unset, .unset, .unset] [])) (fun t k => XS.istoreN X0.here hx rfl (hb hby d1_3) rfl (l' := #[.val (.int p1), .val (.int p2), .val (.int (p1 &&& (1 : Int32))), .unset, .unset, .unset, .unset]) rfl k) ?_
  refine own_pre (B := s₁.setTop (mkF m 5 #[.val (.int p1), .val (.int p2), .val (.int (p1 &&& (1 : Int32))), .unset, .unset, .unset, .unset] [(.int (p1 &&& (1 : Int32)))])) (fun t k => XS.iloadN X0.here hx rfl (hb hby d1_4) rfl k) ?_
  refine own_pre (B := s₁.setTop (mkF m 6 #[.val (.int p1), .val (.int p2), .val (.int (p1 &&& (1 : Int32))), .unset, .unset, .unset, .unset] [(.int (1 : Int32)), (.int (p1 &&& (1 : Int32)))])) (fun t k => XS.iconst X0.here hx rfl (hb hby d1_5) k) ?_
  refine own_pre (B := s₁.setTop (mkF m 7 #[.val (.int p1), .val (.int p2), .val (.int (p1 &&& (1 : Int32))), .unset, .unset, .unset, .unset] [(.int ((p1 &&& (1 : Int32)) + (1 : Int32)))])) (fun t k => XS.iadd X0.here hx rfl (hb hby d1_6) rfl k) ?_
  refine own_pre (B := s₁.setTop (mkF m 8 #[.val (.int p1), .val (.int p2), .val (.int (p1 &&& (1 : Int32))), .unset, .unset, .unset, .unset] [(.int p1), (.int ((p1 &&& (1 : Int32)) + (1 : Int32)))])) (fun t k => XS.iloadN X0.here hx rfl (hb hby d1_7) rfl k) ?_
  refine own_pre (B := s₁.setTop (mkF m 9 #[.val (.int p1), .val (.int p2), .val (.int (p1 &&& (1 : Int32))), .unset, .unset, .unset, .unset] [(.int (1 : Int32)), (.int p1), (.int ((p1 &&& (1 : Int32)) + (1 : Int32)))])) (fun t k => XS.iconst X0.here hx rfl (hb hby d1_8) k) ?_
  refine own_pre (B := s₁.setTop (mkF m 10 #[.val (.int p1), .val (.int p2), .val (.int (p1 &&& (1 : Int32))), .unset, .unset, .unset, .unset] [(.int ((p1.toUInt32 >>> ((1 : Int32) &&& 31).toUInt32).toInt32)), (.int ((p1 &&& (1 : Int32)) + (1 : Int32)))])) (fun t k => XS.iushr X0.here hx rfl (hb hby d1_9) rfl k) ?_
  refine own_pre (B := s₁.setTop (mkF m 11 #[.val (.int p1), .val (.int p2), .val (.int (p1 &&& (1 : Int32))), .unset, .unset, .unset, .unset] [(.int (1 : Int32)), (.int ((p1.toUInt32 >>> ((1 : Int32) &&& 31).toUInt32).toInt32)), (.int ((p1 &&& (1 : Int32)) + (1 : Int32)))])) (fun t k => XS.iconst X0.here hx rfl (hb hby d1_10) k) ?_
  refine own_pre (B := s₁.setTop (mkF m 12 #[.val (.int p1), .val (.int p2), .val (.int (p1 &&& (1 : Int32))), .unset, .unset, .unset, .unset] [(.int (((p1.toUInt32 >>> ((1 : Int32) &&& 31).toUInt32).toInt32) &&& (1 : Int32))), (.int ((p1 &&& (1 : Int32)) + (1 : Int32)))])) (fun t k => XS.iand X0.here hx rfl (hb hby d1_11) rfl k) ?_
  refine own_pre (B := s₁.setTop (mkF m 13 #[.val (.int p1), .val (.int p2), .val (.int (p1 &&& (1 : Int32))), .unset, .unset, .unset, .unset] [(.int (((p1 &&& (1 : Int32)) + (1 : Int32)) + (((p1.toUInt32 >>> ((1 : Int32) &&& 31).toUInt32).toInt32) &&& (1 : Int32))))])) (fun t k => XS.iadd X0.here hx rfl (hb hby d1_12) rfl k) ?_
  refine own_pre (B := s₁.setTop (mkF m 14 #[.val (.int p1), .val (.int p2), .val (.int (p1 &&& (1 : Int32))), .val (.int (((p1 &&& (1 : Int32)) + (1 : Int32)) + (((p1.toUInt32 >>> ((1 : Int32) &&& 31).toUInt32).toInt32) &&& (1 : Int32)))), .unset, .unset, .unset] [])) (fun t k => XS.istoreN X0.here hx rfl (hb hby d1_13) rfl (l' := #[.val (.int p1), .val (.int p2), .val (.int (p1 &&& (1 : Int32))), .val (.int (((p1 &&& (1 : Int32)) + (1 : Int32)) + (((p1.toUInt32 >>> ((1 : Int32) &&& 31).toUInt32).toInt32) &&& (1 : Int32)))), .unset, .unset, .unset]) rfl k) ?_
  refine own_pre (B := s₁.setTop (mkF m 15 #[.val (.int p1), .val (.int p2), .val (.int (p1 &&& (1 : Int32))), .val (.int (((p1 &&& (1 : Int32)) + (1 : Int32)) + (((p1.toUInt32 >>> ((1 : Int32) &&& 31).toUInt32).toInt32) &&& (1 : Int32)))), .unset, .unset, .unset] [(.int (((p1 &&& (1 : Int32)) + (1 : Int32)) + (((p1.toUInt32 >>> ((1 : Int32) &&& 31).toUInt32).toInt32) &&& (1 : Int32))))])) (fun t k => XS.iloadN X0.here hx rfl (hb hby d1_14) rfl k) ?_
  refine own_pre (B := s₁.setTop (mkF m 16 #[.val (.int p1), .val (.int p2), .val (.int (p1 &&& (1 : Int32))), .val (.int (((p1 &&& (1 : Int32)) + (1 : Int32)) + (((p1.toUInt32 >>> ((1 : Int32) &&& 31).toUInt32).toInt32) &&& (1 : Int32)))), .unset, .unset, .unset] [(.int (1 : Int32)), (.int (((p1 &&& (1 : Int32)) + (1 : Int32)) + (((p1.toUInt32 >>> ((1 : Int32) &&& 31).toUInt32).toInt32) &&& (1 : Int32))))])) (fun t k => XS.iconst X0.here hx rfl (hb hby d1_15) k) ?_
  refine own_pre (B := s₁.setTop (mkF m 17 #[.val (.int p1), .val (.int p2), .val (.int (p1 &&& (1 : Int32))), .val (.int (((p1 &&& (1 : Int32)) + (1 : Int32)) + (((p1.toUInt32 >>> ((1 : Int32) &&& 31).toUInt32).toInt32) &&& (1 : Int32)))), .unset, .unset, .unset] [(.int ((((p1 &&& (1 : Int32)) + (1 : Int32)) + (((p1.toUInt32 >>> ((1 : Int32) &&& 31).toUInt32).toInt32) &&& (1 : Int32))) + (1 : Int32)))])) (fun t k => XS.iadd X0.here hx rfl (hb hby d1_16) rfl k) ?_
  refine own_pre (B := s₁.setTop (mkF m 18 #[.val (.int p1), .val (.int p2), .val (.int (p1 &&& (1 : Int32))), .val (.int (((p1 &&& (1 : Int32)) + (1 : Int32)) + (((p1.toUInt32 >>> ((1 : Int32) &&& 31).toUInt32).toInt32) &&& (1 : Int32)))), .unset, .unset, .unset] [(.int p1), (.int ((((p1 &&& (1 : Int32)) + (1 : Int32)) + (((p1.toUInt32 >>> ((1 : Int32) &&& 31).toUInt32).toInt32) &&& (1 : Int32))) + (1 : Int32)))])) (fun t k => XS.iloadN X0.here hx rfl (hb hby d1_17) rfl k) ?_
  refine own_pre (B := s₁.setTop (mkF m 19 #[.val (.int p1), .val (.int p2), .val (.int (p1 &&& (1 : Int32))), .val (.int (((p1 &&& (1 : Int32)) + (1 : Int32)) + (((p1.toUInt32 >>> ((1 : Int32) &&& 31).toUInt32).toInt32) &&& (1 : Int32)))), .unset, .unset, .unset] [(.int (2 : Int32)), (.int p1), (.int ((((p1 &&& (1 : Int32)) + (1 : Int32)) + (((p1.toUInt32 >>> ((1 : Int32) &&& 31).toUInt32).toInt32) &&& (1 : Int32))) + (1 : Int32)))])) (fun t k => XS.iconst X0.here hx rfl (hb hby d1_18) k) ?_
  refine own_pre (B := s₁.setTop (mkF m 20 #[.val (.int p1), .val (.int p2), .val (.int (p1 &&& (1 : Int32))), .val (.int (((p1 &&& (1 : Int32)) + (1 : Int32)) + (((p1.toUInt32 >>> ((1 : Int32) &&& 31).toUInt32).toInt32) &&& (1 : Int32)))), .unset, .unset, .unset] [(.int ((p1.toUInt32 >>> ((2 : Int32) &&& 31).toUInt32).toInt32)), (.int ((((p1 &&& (1 : Int32)) + (1 : Int32)) + (((p1.toUInt32 >>> ((1 : Int32) &&& 31).toUInt32).toInt32) &&& (1 : Int32))) + (1 : Int32)))])) (fun t k => XS.iushr X0.here hx rfl (hb hby d1_19) rfl k) ?_
  refine own_pre (B := s₁.setTop (mkF m 21 #[.val (.int p1), .val (.int p2), .val (.int (p1 &&& (1 : Int32))), .val (.int (((p1 &&& (1 : Int32)) + (1 : Int32)) + (((p1.toUInt32 >>> ((1 : Int32) &&& 31).toUInt32).toInt32) &&& (1 : Int32)))), .unset, .unset, .unset] [(.int (1 : Int32)), (.int ((p1.toUInt32 >>> ((2 : Int32) &&& 31).toUInt32).toInt32)), (.int ((((p1 &&& (1 : Int32)) + (1 : Int32)) + (((p1.toUInt32 >>> ((1 : Int32) &&& 31).toUInt32).toInt32) &&& (1 : Int32))) + (1 : Int32)))])) (fun t k => XS.iconst X0.here hx rfl (hb hby d1_20) k) ?_
  refine own_pre (B := s₁.setTop (mkF m 22 #[.val (.int p1), .val (.int p2), .val (.int (p1 &&& (1 : Int32))), .val (.int (((p1 &&& (1 : Int32)) + (1 : Int32)) + (((p1.toUInt32 >>> ((1 : Int32) &&& 31).toUInt32).toInt32) &&& (1 : Int32)))), .unset, .unset, .unset] [(.int (((p1.toUInt32 >>> ((2 : Int32) &&& 31).toUInt32).toInt32) &&& (1 : Int32))), (.int ((((p1 &&& (1 : Int32)) + (1 : Int32)) + (((p1.toUInt32 >>> ((1 : Int32) &&& 31).toUInt32).toInt32) &&& (1 : Int32))) + (1 : Int32)))])) (fun t k => XS.iand X0.here hx rfl (hb hby d1_21) rfl k) ?_
  refine own_pre (B := s₁.setTop (mkF m 23 #[.val (.int p1), .val (.int p2), .val (.int (p1 &&& (1 : Int32))), .val (.int (((p1 &&& (1 : Int32)) + (1 : Int32)) + (((p1.toUInt32 >>> ((1 : Int32) &&& 31).toUInt32).toInt32) &&& (1 : Int32)))), .unset, .unset, .unset] [(.int (((((p1 &&& (1 : Int32)) + (1 : Int32)) + (((p1.toUInt32 >>> ((1 : Int32) &&& 31).toUInt32).toInt32) &&& (1 : Int32))) + (1 : Int32)) + (((p1.toUInt32 >>> ((2 : Int32) &&& 31).toUInt32).toInt32) &&& (1 : Int32))))])) (fun t k => XS.iadd X0.here hx rfl (hb hby d1_22) rfl k) ?_
  refine own_pre (B := s₁.setTop (mkF m 25 #[.val (.int p1), .val (.int p2), .val (.int (p1 &&& (1 : Int32))), .val (.int (((p1 &&& (1 : Int32)) + (1 : Int32)) + (((p1.toUInt32 >>> ((1 : Int32) &&& 31).toUInt32).toInt32) &&& (1 : Int32)))), .val (.int (((((p1 &&& (1 : Int32)) + (1 : Int32)) + (((p1.toUInt32 >>> ((1 : Int32) &&& 31).toUInt32).toInt32) &&& (1 : Int32))) + (1 : Int32)) + (((p1.toUInt32 >>> ((2 : Int32) &&& 31).toUInt32).toInt32) &&& (1 : Int32)))), .unset, .unset] [])) (fun t k => XS.istore X0.here hx rfl (hb hby d1_23) rfl (l' := #[.val (.int p1), .val (.int p2), .val (.int (p1 &&& (1 : Int32))), .val (.int (((p1 &&& (1 : Int32)) + (1 : Int32)) + (((p1.toUInt32 >>> ((1 : Int32) &&& 31).toUInt32).toInt32) &&& (1 : Int32)))), .val (.int (((((p1 &&& (1 : Int32)) + (1 : Int32)) + (((p1.toUInt32 >>> ((1 : Int32) &&& 31).toUInt32).toInt32) &&& (1 : Int32))) + (1 : Int32)) + (((p1.toUInt32 >>> ((2 : Int32) &&& 31).toUInt32).toInt32) &&& (1 : Int32)))), .unset, .unset]) rfl k) ?_
  refine own_pre (B := s₁.setTop (mkF m 27 #[.val (.int p1), .val (.int p2), .val (.int (p1 &&& (1 : Int32))), .val (.int (((p1 &&& (1 : Int32)) + (1 : Int32)) + (((p1.toUInt32 >>> ((1 : Int32) &&& 31).toUInt32).toInt32) &&& (1 : Int32)))), .val (.int (((((p1 &&& (1 : Int32)) + (1 : Int32)) + (((p1.toUInt32 >>> ((1 : Int32) &&& 31).toUInt32).toInt32) &&& (1 : Int32))) + (1 : Int32)) + (((p1.toUInt32 >>> ((2 : Int32) &&& 31).toUInt32).toInt32) &&& (1 : Int32)))), .unset, .unset] [(.int (((((p1 &&& (1 : Int32)) + (1 : Int32)) + (((p1.toUInt32 >>> ((1 : Int32) &&& 31).toUInt32).toInt32) &&& (1 : Int32))) + (1 : Int32)) + (((p1.toUInt32 >>> ((2 : Int32) &&& 31).toUInt32).toInt32) &&& (1 : Int32))))])) (fun t k => XS.iload X0.here hx rfl (hb hby d1_25) rfl k) ?_
  refine own_pre (B := s₁.setTop (mkF m 28 #[.val (.int p1), .val (.int p2), .val (.int (p1 &&& (1 : Int32))), .val (.int (((p1 &&& (1 : Int32)) + (1 : Int32)) + (((p1.toUInt32 >>> ((1 : Int32) &&& 31).toUInt32).toInt32) &&& (1 : Int32)))), .val (.int (((((p1 &&& (1 : Int32)) + (1 : Int32)) + (((p1.toUInt32 >>> ((1 : Int32) &&& 31).toUInt32).toInt32) &&& (1 : Int32))) + (1 : Int32)) + (((p1.toUInt32 >>> ((2 : Int32) &&& 31).toUInt32).toInt32) &&& (1 : Int32)))), .unset, .unset] [(.int (1 : Int32)), (.int (((((p1 &&& (1 : Int32)) + (1 : Int32)) + (((p1.toUInt32 >>> ((1 : Int32) &&& 31).toUInt32).toInt32) &&& (1 : Int32))) + (1 : Int32)) + (((p1.toUInt32 >>> ((2 : Int32) &&& 31).toUInt32).toInt32) &&& (1 : Int32))))])) (fun t k => XS.iconst X0.here hx rfl (hb hby d1_27) k) ?_
  refine own_pre (B := s₁.setTop (mkF m 29 #[.val (.int p1), .val (.int p2), .val (.int (p1 &&& (1 : Int32))), .val (.int (((p1 &&& (1 : Int32)) + (1 : Int32)) + (((p1.toUInt32 >>> ((1 : Int32) &&& 31).toUInt32).toInt32) &&& (1 : Int32)))), .val (.int (((((p1 &&& (1 : Int32)) + (1 : Int32)) + (((p1.toUInt32 >>> ((1 : Int32) &&& 31).toUInt32).toInt32) &&& (1 : Int32))) + (1 : Int32)) + (((p1.toUInt32 >>> ((2 : Int32) &&& 31).toUInt32).toInt32) &&& (1 : Int32)))), .unset, .unset] [(.int ((((((p1 &&& (1 : Int32)) + (1 : Int32)) + (((p1.toUInt32 >>> ((1 : Int32) &&& 31).toUInt32).toInt32) &&& (1 : Int32))) + (1 : Int32)) + (((p1.toUInt32 >>> ((2 : Int32) &&& 31).toUInt32).toInt32) &&& (1 : Int32))) + (1 : Int32)))])) (fun t k => XS.iadd X0.here hx rfl (hb hby d1_28) rfl k) ?_
  refine own_pre (B := s₁.setTop (mkF m 30 #[.val (.int p1), .val (.int p2), .val (.int (p1 &&& (1 : Int32))), .val (.int (((p1 &&& (1 : Int32)) + (1 : Int32)) + (((p1.toUInt32 >>> ((1 : Int32) &&& 31).toUInt32).toInt32) &&& (1 : Int32)))), .val (.int (((((p1 &&& (1 : Int32)) + (1 : Int32)) + (((p1.toUInt32 >>> ((1 : Int32) &&& 31).toUInt32).toInt32) &&& (1 : Int32))) + (1 : Int32)) + (((p1.toUInt32 >>> ((2 : Int32) &&& 31).toUInt32).toInt32) &&& (1 : Int32)))), .unset, .unset] [(.int p1), (.int ((((((p1 &&& (1 : Int32)) + (1 : Int32)) + (((p1.toUInt32 >>> ((1 : Int32) &&& 31).toUInt32).toInt32) &&& (1 : Int32))) + (1 : Int32)) + (((p1.toUInt32 >>> ((2 : Int32) &&& 31).toUInt32).toInt32) &&& (1 : Int32))) + (1 : Int32)))])) (fun t k => XS.iloadN X0.here hx rfl (hb hby d1_29) rfl k) ?_
  refine own_pre (B := s₁.setTop (mkF m 31 #[.val (.int p1), .val (.int p2), .val (.int (p1 &&& (1 : Int32))), .val (.int (((p1 &&& (1 : Int32)) + (1 : Int32)) + (((p1.toUInt32 >>> ((1 : Int32) &&& 31).toUInt32).toInt32) &&& (1 : Int32)))), .val (.int (((((p1 &&& (1 : Int32)) + (1 : Int32)) + (((p1.toUInt32 >>> ((1 : Int32) &&& 31).toUInt32).toInt32) &&& (1 : Int32))) + (1 : Int32)) + (((p1.toUInt32 >>> ((2 : Int32) &&& 31).toUInt32).toInt32) &&& (1 : Int32)))), .unset, .unset] [(.int (3 : Int32)), (.int p1), (.int ((((((p1 &&& (1 : Int32)) + (1 : Int32)) + (((p1.toUInt32 >>> ((1 : Int32) &&& 31).toUInt32).toInt32) &&& (1 : Int32))) + (1 : Int32)) + (((p1.toUInt32 >>> ((2 : Int32) &&& 31).toUInt32).toInt32) &&& (1 : Int32))) + (1 : Int32)))])) (fun t k => XS.iconst X0.here hx rfl (hb hby d1_30) k) ?_
  refine own_pre (B := s₁.setTop (mkF m 32 #[.val (.int p1), .val (.int p2), .val (.int (p1 &&& (1 : Int32))), .val (.int (((p1 &&& (1 : Int32)) + (1 : Int32)) + (((p1.toUInt32 >>> ((1 : Int32) &&& 31).toUInt32).toInt32) &&& (1 : Int32)))), .val (.int (((((p1 &&& (1 : Int32)) + (1 : Int32)) + (((p1.toUInt32 >>> ((1 : Int32) &&& 31).toUInt32).toInt32) &&& (1 : Int32))) + (1 : Int32)) + (((p1.toUInt32 >>> ((2 : Int32) &&& 31).toUInt32).toInt32) &&& (1 : Int32)))), .unset, .unset] [(.int ((p1.toUInt32 >>> ((3 : Int32) &&& 31).toUInt32).toInt32)), (.int ((((((p1 &&& (1 : Int32)) + (1 : Int32)) + (((p1.toUInt32 >>> ((1 : Int32) &&& 31).toUInt32).toInt32) &&& (1 : Int32))) + (1 : Int32)) + (((p1.toUInt32 >>> ((2 : Int32) &&& 31).toUInt32).toInt32) &&& (1 : Int32))) + (1 : Int32)))])) (fun t k => XS.iushr X0.here hx rfl (hb hby d1_31) rfl k) ?_
  refine own_pre (B := s₁.setTop (mkF m 33 #[.val (.int p1), .val (.int p2), .val (.int (p1 &&& (1 : Int32))), .val (.int (((p1 &&& (1 : Int32)) + (1 : Int32)) + (((p1.toUInt32 >>> ((1 : Int32) &&& 31).toUInt32).toInt32) &&& (1 : Int32)))), .val (.int (((((p1 &&& (1 : Int32)) + (1 : Int32)) + (((p1.toUInt32 >>> ((1 : Int32) &&& 31).toUInt32).toInt32) &&& (1 : Int32))) + (1 : Int32)) + (((p1.toUInt32 >>> ((2 : Int32) &&& 31).toUInt32).toInt32) &&& (1 : Int32)))), .unset, .unset] [(.int (1 : Int32)), (.int ((p1.toUInt32 >>> ((3 : Int32) &&& 31).toUInt32).toInt32)), (.int ((((((p1 &&& (1 : Int32)) + (1 : Int32)) + (((p1.toUInt32 >>> ((1 : Int32) &&& 31).toUInt32).toInt32) &&& (1 : Int32))) + (1 : Int32)) + (((p1.toUInt32 >>> ((2 : Int32) &&& 31).toUInt32).toInt32) &&& (1 : Int32))) + (1 : Int32)))])) (fun t k => XS.iconst X0.here hx rfl (hb hby d1_32) k) ?_
  refine own_pre (B := s₁.setTop (mkF m 34 #[.val (.int p1), .val (.int p2), .val (.int (p1 &&& (1 : Int32))), .val (.int (((p1 &&& (1 : Int32)) + (1 : Int32)) + (((p1.toUInt32 >>> ((1 : Int32) &&& 31).toUInt32).toInt32) &&& (1 : Int32)))), .val (.int (((((p1 &&& (1 : Int32)) + (1 : Int32)) + (((p1.toUInt32 >>> ((1 : Int32) &&& 31).toUInt32).toInt32) &&& (1 : Int32))) + (1 : Int32)) + (((p1.toUInt32 >>> ((2 : Int32) &&& 31).toUInt32).toInt32) &&& (1 : Int32)))), .unset, .unset] [(.int (((p1.toUInt32 >>> ((3 : Int32) &&& 31).toUInt32).toInt32) &&& (1 : Int32))), (.int ((((((p1 &&& (1 : Int32)) + (1 : Int32)) + (((p1.toUInt32 >>> ((1 : Int32) &&& 31).toUInt32).toInt32) &&& (1 : Int32))) + (1 : Int32)) + (((p1.toUInt32 >>> ((2 : Int32) &&& 31).toUInt32).toInt32) &&& (1 : Int32))) + (1 : Int32)))])) (fun t k => XS.iand X0.here hx rfl (hb hby d1_33) rfl k) ?_
  refine own_pre (B := s₁.setTop (mkF m 35 #[.val (.int p1), .val (.int p2), .val (.int (p1 &&& (1 : Int32))), .val (.int (((p1 &&& (1 : Int32)) + (1 : Int32)) + (((p1.toUInt32 >>> ((1 : Int32) &&& 31).toUInt32).toInt32) &&& (1 : Int32)))), .val (.int (((((p1 &&& (1 : Int32)) + (1 : Int32)) + (((p1.toUInt32 >>> ((1 : Int32) &&& 31).toUInt32).toInt32) &&& (1 : Int32))) + (1 : Int32)) + (((p1.toUInt32 >>> ((2 : Int32) &&& 31).toUInt32).toInt32) &&& (1 : Int32)))), .unset, .unset] [(.int (((((((p1 &&& (1 : Int32)) + (1 : Int32)) + (((p1.toUInt32 >>> ((1 : Int32) &&& 31).toUInt32).toInt32) &&& (1 : Int32))) + (1 : Int32)) + (((p1.toUInt32 >>> ((2 : Int32) &&& 31).toUInt32).toInt32) &&& (1 : Int32))) + (1 : Int32)) + (((p1.toUInt32 >>> ((3 : Int32) &&& 31).toUInt32).toInt32) &&& (1 : Int32))))])) (fun t k => XS.iadd X0.here hx rfl (hb hby d1_34) rfl k) ?_
  refine own_pre (B := s₁.setTop (mkF m 37 #[.val (.int p1), .val (.int p2), .val (.int (p1 &&& (1 : Int32))), .val (.int (((p1 &&& (1 : Int32)) + (1 : Int32)) + (((p1.toUInt32 >>> ((1 : Int32) &&& 31).toUInt32).toInt32) &&& (1 : Int32)))), .val (.int (((((p1 &&& (1 : Int32)) + (1 : Int32)) + (((p1.toUInt32 >>> ((1 : Int32) &&& 31).toUInt32).toInt32) &&& (1 : Int32))) + (1 : Int32)) + (((p1.toUInt32 >>> ((2 : Int32) &&& 31).toUInt32).toInt32) &&& (1 : Int32)))), .val (.int (((((((p1 &&& (1 : Int32)) + (1 : Int32)) + (((p1.toUInt32 >>> ((1 : Int32) &&& 31).toUInt32).toInt32) &&& (1 : Int32))) + (1 : Int32)) + (((p1.toUInt32 >>> ((2 : Int32) &&& 31).toUInt32).toInt32) &&& (1 : Int32))) + (1 : Int32)) + (((p1.toUInt32 >>> ((3 : Int32) &&& 31).toUInt32).toInt32) &&& (1 : Int32)))), .unset] [])) (fun t k => XS.istore X0.here hx rfl (hb hby d1_35) rfl (l' := #[.val (.int p1), .val (.int p2), .val (.int (p1 &&& (1 : Int32))), .val (.int (((p1 &&& (1 : Int32)) + (1 : Int32)) + (((p1.toUInt32 >>> ((1 : Int32) &&& 31).toUInt32).toInt32) &&& (1 : Int32)))), .val (.int (((((p1 &&& (1 : Int32)) + (1 : Int32)) + (((p1.toUInt32 >>> ((1 : Int32) &&& 31).toUInt32).toInt32) &&& (1 : Int32))) + (1 : Int32)) + (((p1.toUInt32 >>> ((2 : Int32) &&& 31).toUInt32).toInt32) &&& (1 : Int32)))), .val (.int (((((((p1 &&& (1 : Int32)) + (1 : Int32)) + (((p1.toUInt32 >>> ((1 : Int32) &&& 31).toUInt32).toInt32) &&& (1 : Int32))) + (1 : Int32)) + (((p1.toUInt32 >>> ((2 : Int32) &&& 31).toUInt32).toInt32) &&& (1 : Int32))) + (1 : Int32)) + (((p1.toUInt32 >>> ((3 : Int32) &&& 31).toUInt32).toInt32) &&& (1 : Int32)))), .unset]) rfl k) ?_
  refine own_pre (B := s₁.setTop (mkF m 38 #[.val (.int p1), .val (.int p2), .val (.int (p1 &&& (1 : Int32))), .val (.int (((p1 &&& (1 : Int32)) + (1 : Int32)) + (((p1.toUInt32 >>> ((1 : Int32) &&& 31).toUInt32).toInt32) &&& (1 : Int32)))), .val (.int (((((p1 &&& (1 : Int32)) + (1 : Int32)) + (((p1.toUInt32 >>> ((1 : Int32) &&& 31).toUInt32).toInt32) &&& (1 : Int32))) + (1 : Int32)) + (((p1.toUInt32 >>> ((2 : Int32) &&& 31).toUInt32).toInt32) &&& (1 : Int32)))), .val (.int (((((((p1 &&& (1 : Int32)) + (1 : Int32)) + (((p1.toUInt32 >>> ((1 : Int32) &&& 31).toUInt32).toInt32) &&& (1 : Int32))) + (1 : Int32)) + (((p1.toUInt32 >>> ((2 : Int32) &&& 31).toUInt32).toInt32) &&& (1 : Int32))) + (1 : Int32)) + (((p1.toUInt32 >>> ((3 : Int32) &&& 31).toUInt32).toInt32) &&& (1 : Int32)))), .unset] [(.int p2)])) (fun t k => XS.iloadN X0.here hx rfl (hb hby d1_37) rfl k) ?_
  have K3 : Keep h0 h0 [] := (Keep.refl h0 [])
  obtain ⟨T4, h4, k4, X4, e4, E4, A4, st4⟩ := newP X0 hx hZ (hw _ (ow 6 rfl)) e0 (g := (mkF m 38 #[.val (.int p1), .val (.int p2), .val (.int (p1 &&& (1 : Int32))), .val (.int (((p1 &&& (1 : Int32)) + (1 : Int32)) + (((p1.toUInt32 >>> ((1 : Int32) &&& 31).toUInt32).toInt32) &&& (1 : Int32)))), .val (.int (((((p1 &&& (1 : Int32)) + (1 : Int32)) + (((p1.toUInt32 >>> ((1 : Int32) &&& 31).toUInt32).toInt32) &&& (1 : Int32))) + (1 : Int32)) + (((p1.toUInt32 >>> ((2 : Int32) &&& 31).toUInt32).toInt32) &&& (1 : Int32)))), .val (.int (((((((p1 &&& (1 : Int32)) + (1 : Int32)) + (((p1.toUInt32 >>> ((1 : Int32) &&& 31).toUInt32).toInt32) &&& (1 : Int32))) + (1 : Int32)) + (((p1.toUInt32 >>> ((2 : Int32) &&& 31).toUInt32).toInt32) &&& (1 : Int32))) + (1 : Int32)) + (((p1.toUInt32 >>> ((3 : Int32) &&& 31).toUInt32).toInt32) &&& (1 : Int32)))), .unset] [(.int p2)])) rfl (hb hby d1_38) rfl hn.1 (cap := 4) (own_cap4 hn) (by decide) (by decide) (by decide)
  obtain ⟨b4, g4⟩ : ∃ z, z = h0.size := ⟨_, rfl⟩
  rw [← g4] at A4 st4
  have g_b4 : n0 ≤ b4 := Nat.le_trans Z0 (Nat.le_of_eq g4.symm)
  have s_b4 : h0.size ≤ b4 := Nat.le_trans K3.1 (Nat.le_of_eq g4.symm)
  have V_b4 : Arv Z h4 b4 k4 .int p2 [(.int (0 : Int32)), (.int (0 : Int32)), (.int (0 : Int32)), (.int (0 : Int32))] (.int (0 : Int32)) := (Arv.new A4 hn.1).pad (pad_rep [] (.int (0 : Int32)) 4)
  refine own_pre (B := T4.setTop (mkF m 40 #[.val (.int p1), .val (.int p2), .val (.int (p1 &&& (1 : Int32))), .val (.int (((p1 &&& (1 : Int32)) + (1 : Int32)) + (((p1.toUInt32 >>> ((1 : Int32) &&& 31).toUInt32).toInt32) &&& (1 : Int32)))), .val (.int (((((p1 &&& (1 : Int32)) + (1 : Int32)) + (((p1.toUInt32 >>> ((1 : Int32) &&& 31).toUInt32).toInt32) &&& (1 : Int32))) + (1 : Int32)) + (((p1.toUInt32 >>> ((2 : Int32) &&& 31).toUInt32).toInt32) &&& (1 : Int32)))), .val (.int (((((((p1 &&& (1 : Int32)) + (1 : Int32)) + (((p1.toUInt32 >>> ((1 : Int32) &&& 31).toUInt32).toInt32) &&& (1 : Int32))) + (1 : Int32)) + (((p1.toUInt32 >>> ((2 : Int32) &&& 31).toUInt32).toInt32) &&& (1 : Int32))) + (1 : Int32)) + (((p1.toUInt32 >>> ((3 : Int32) &&& 31).toUInt32).toInt32) &&& (1 : Int32)))), .unset] [(.ref b4)])) (fun t k => st4 t k) ?_
  refine own_pre (B := T4.setTop (mkF m 42 #[.val (.int p1), .val (.int p2), .val (.int (p1 &&& (1 : Int32))), .val (.int (((p1 &&& (1 : Int32)) + (1 : Int32)) + (((p1.toUInt32 >>> ((1 : Int32) &&& 31).toUInt32).toInt32) &&& (1 : Int32)))), .val (.int (((((p1 &&& (1 : Int32)) + (1 : Int32)) + (((p1.toUInt32 >>> ((1 : Int32) &&& 31).toUInt32).toInt32) &&& (1 : Int32))) + (1 : Int32)) + (((p1.toUInt32 >>> ((2 : Int32) &&& 31).toUInt32).toInt32) &&& (1 : Int32)))), .val (.int (((((((p1 &&& (1 : Int32)) + (1 : Int32)) + (((p1.toUInt32 >>> ((1 : Int32) &&& 31).toUInt32).toInt32) &&& (1 : Int32))) + (1 : Int32)) + (((p1.toUInt32 >>> ((2 : Int32) &&& 31).toUInt32).toInt32) &&& (1 : Int32))) + (1 : Int32)) + (((p1.toUInt32 >>> ((3 : Int32) &&& 31).toUInt32).toInt32) &&& (1 : Int32)))), .val (.ref b4)] [])) (fun t k => XS.astore X4.here hx rfl (hb hby d1_40) rfl rfl (l' := #[.val (.int p1), .val (.int p2), .val (.int (p1 &&& (1 : Int32))), .val (.int (((p1 &&& (1 : Int32)) + (1 : Int32)) + (((p1.toUInt32 >>> ((1 : Int32) &&& 31).toUInt32).toInt32) &&& (1 : Int32)))), .val (.int (((((p1 &&& (1 : Int32)) + (1 : Int32)) + (((p1.toUInt32 >>> ((1 : Int32) &&& 31).toUInt32).toInt32) &&& (1 : Int32))) + (1 : Int32)) + (((p1.toUInt32 >>> ((2 : Int32) &&& 31).toUInt32).toInt32) &&& (1 : Int32)))), .val (.int (((((((p1 &&& (1 : Int32)) + (1 : Int32)) + (((p1.toUInt32 >>> ((1 : Int32) &&& 31).toUInt32).toInt32) &&& (1 : Int32))) + (1 : Int32)) + (((p1.toUInt32 >>> ((2 : Int32) &&& 31).toUInt32).toInt32) &&& (1 : Int32))) + (1 : Int32)) + (((p1.toUInt32 >>> ((3 : Int32) &&& 31).toUInt32).toInt32) &&& (1 : Int32)))), .val (.ref b4)]) rfl k) ?_
  refine own_pre (B := T4.setTop (mkF m 43 #[.val (.int p1), .val (.int p2), .val (.int (p1 &&& (1 : Int32))), .val (.int (((p1 &&& (1 : Int32)) + (1 : Int32)) + (((p1.toUInt32 >>> ((1 : Int32) &&& 31).toUInt32).toInt32) &&& (1 : Int32)))), .val (.int (((((p1 &&& (1 : Int32)) + (1 : Int32)) + (((p1.toUInt32 >>> ((1 : Int32) &&& 31).toUInt32).toInt32) &&& (1 : Int32))) + (1 : Int32)) + (((p1.toUInt32 >>> ((2 : Int32) &&& 31).toUInt32).toInt32) &&& (1 : Int32)))), .val (.int (((((((p1 &&& (1 : Int32)) + (1 : Int32)) + (((p1.toUInt32 >>> ((1 : Int32) &&& 31).toUInt32).toInt32) &&& (1 : Int32))) + (1 : Int32)) + (((p1.toUInt32 >>> ((2 : Int32) &&& 31).toUInt32).toInt32) &&& (1 : Int32))) + (1 : Int32)) + (((p1.toUInt32 >>> ((3 : Int32) &&& 31).toUInt32).toInt32) &&& (1 : Int32)))), .val (.ref b4)] [(.int p2)])) (fun t k => XS.iloadN X4.here hx rfl (hb hby d1_42) rfl k) ?_
  obtain ⟨z5, hz5⟩ : ∃ z : Int32, z = (if (0 : Int32) < p2 then (p1 &&& (1 : Int32)) else (0 : Int32)) := ⟨_, rfl⟩
  have K7 : Keep h0 h4 [] := (Keep.ext K3 E4)
  obtain ⟨_, ⟨T6, h6, L6, rfl, X6, e6, N6, K6j, j6_0⟩, st6⟩ : own_J p.tables e below (fun B => ∃ (T' : State) (h' : Heap) (L' : List Loc), B = T'.setTop (mkF m 51 #[.val (.int p1), .val (.int p2), .val (.int (p1 &&& (1 : Int32))), .val (.int (((p1 &&& (1 : Int32)) + (1 : Int32)) + (((p1.toUInt32 >>> ((1 : Int32) &&& 31).toUInt32).toInt32) &&& (1 : Int32)))), .val (.int (((((p1 &&& (1 : Int32)) + (1 : Int32)) + (((p1.toUInt32 >>> ((1 : Int32) &&& 31).toUInt32).toInt32) &&& (1 : Int32))) + (1 : Int32)) + (((p1.toUInt32 >>> ((2 : Int32) &&& 31).toUInt32).toInt32) &&& (1 : Int32)))), .val (.int (((((((p1 &&& (1 : Int32)) + (1 : Int32)) + (((p1.toUInt32 >>> ((1 : Int32) &&& 31).toUInt32).toInt32) &&& (1 : Int32))) + (1 : Int32)) + (((p1.toUInt32 >>> ((2 : Int32) &&& 31).toUInt32).toInt32) &&& (1 : Int32))) + (1 : Int32)) + (((p1.toUInt32 >>> ((3 : Int32) &&& 31).toUInt32).toInt32) &&& (1 : Int32)))), .val (.ref b4)] []) ∧ Stand p l e ({ frames := 0, cells := 1, slots := 4, locals := 0 } : Room) s m #[(.int p1), (.int p2)] below meth c T' L' 1 4 ∧ T'.heap = h' ∧ Fr n0 L' ∧ Keep h0 h' [] ∧ Arv Z h' b4 k4 .int p2 [(.int z5), (.int (0 : Int32)), (.int (0 : Int32)), (.int (0 : Int32))] (.int (0 : Int32))) (T4.setTop (mkF m 43 #[.val (.int p1), .val (.int p2), .val (.int (p1 &&& (1 : Int32))), .val (.int (((p1 &&& (1 : Int32)) + (1 : Int32)) + (((p1.toUInt32 >>> ((1 : Int32) &&& 31).toUInt32).toInt32) &&& (1 : Int32)))), .val (.int (((((p1 &&& (1 : Int32)) + (1 : Int32)) + (((p1.toUInt32 >>> ((1 : Int32) &&& 31).toUInt32).toInt32) &&& (1 : Int32))) + (1 : Int32)) + (((p1.toUInt32 >>> ((2 : Int32) &&& 31).toUInt32).toInt32) &&& (1 : Int32)))), .val (.int (((((((p1 &&& (1 : Int32)) + (1 : Int32)) + (((p1.toUInt32 >>> ((1 : Int32) &&& 31).toUInt32).toInt32) &&& (1 : Int32))) + (1 : Int32)) + (((p1.toUInt32 >>> ((2 : Int32) &&& 31).toUInt32).toInt32) &&& (1 : Int32))) + (1 : Int32)) + (((p1.toUInt32 >>> ((3 : Int32) &&& 31).toUInt32).toInt32) &&& (1 : Int32)))), .val (.ref b4)] [(.int p2)])) := by
    by_cases hc43_8 : (0 : Int32) < p2
    · refine own_preJ (B := T4.setTop (mkF m 46 #[.val (.int p1), .val (.int p2), .val (.int (p1 &&& (1 : Int32))), .val (.int (((p1 &&& (1 : Int32)) + (1 : Int32)) + (((p1.toUInt32 >>> ((1 : Int32) &&& 31).toUInt32).toInt32) &&& (1 : Int32)))), .val (.int (((((p1 &&& (1 : Int32)) + (1 : Int32)) + (((p1.toUInt32 >>> ((1 : Int32) &&& 31).toUInt32).toInt32) &&& (1 : Int32))) + (1 : Int32)) + (((p1.toUInt32 >>> ((2 : Int32) &&& 31).toUInt32).toInt32) &&& (1 : Int32)))), .val (.int (((((((p1 &&& (1 : Int32)) + (1 : Int32)) + (((p1.toUInt32 >>> ((1 : Int32) &&& 31).toUInt32).toInt32) &&& (1 : Int32))) + (1 : Int32)) + (((p1.toUInt32 >>> ((2 : Int32) &&& 31).toUInt32).toInt32) &&& (1 : Int32))) + (1 : Int32)) + (((p1.toUInt32 >>> ((3 : Int32) &&& 31).toUInt32).toInt32) &&& (1 : Int32)))), .val (.ref b4)] [])) (fun t k => XS.ifNo X4.here hx rfl (hb hby d1_43) rfl ((if0 _ _).trans (tlt hc43_8).2.2.2) k) ?_
      refine own_preJ (B := T4.setTop (mkF m 48 #[.val (.int p1), .val (.int p2), .val (.int (p1 &&& (1 : Int32))), .val (.int (((p1 &&& (1 : Int32)) + (1 : Int32)) + (((p1.toUInt32 >>> ((1 : Int32) &&& 31).toUInt32).toInt32) &&& (1 : Int32)))), .val (.int (((((p1 &&& (1 : Int32)) + (1 : Int32)) + (((p1.toUInt32 >>> ((1 : Int32) &&& 31).toUInt32).toInt32) &&& (1 : Int32))) + (1 : Int32)) + (((p1.toUInt32 >>> ((2 : Int32) &&& 31).toUInt32).toInt32) &&& (1 : Int32)))), .val (.int (((((((p1 &&& (1 : Int32)) + (1 : Int32)) + (((p1.toUInt32 >>> ((1 : Int32) &&& 31).toUInt32).toInt32) &&& (1 : Int32))) + (1 : Int32)) + (((p1.toUInt32 >>> ((2 : Int32) &&& 31).toUInt32).toInt32) &&& (1 : Int32))) + (1 : Int32)) + (((p1.toUInt32 >>> ((3 : Int32) &&& 31).toUInt32).toInt32) &&& (1 : Int32)))), .val (.ref b4)] [(.ref b4)])) (fun t k => XS.aload X4.here hx rfl (hb hby d1_46) rfl rfl k) ?_
      refine own_preJ (B := T4.setTop (mkF m 49 #[.val (.int p1), .val (.int p2), .val (.int (p1 &&& (1 : Int32))), .val (.int (((p1 &&& (1 : Int32)) + (1 : Int32)) + (((p1.toUInt32 >>> ((1 : Int32) &&& 31).toUInt32).toInt32) &&& (1 : Int32)))), .val (.int (((((p1 &&& (1 : Int32)) + (1 : Int32)) + (((p1.toUInt32 >>> ((1 : Int32) &&& 31).toUInt32).toInt32) &&& (1 : Int32))) + (1 : Int32)) + (((p1.toUInt32 >>> ((2 : Int32) &&& 31).toUInt32).toInt32) &&& (1 : Int32)))), .val (.int (((((((p1 &&& (1 : Int32)) + (1 : Int32)) + (((p1.toUInt32 >>> ((1 : Int32) &&& 31).toUInt32).toInt32) &&& (1 : Int32))) + (1 : Int32)) + (((p1.toUInt32 >>> ((2 : Int32) &&& 31).toUInt32).toInt32) &&& (1 : Int32))) + (1 : Int32)) + (((p1.toUInt32 >>> ((3 : Int32) &&& 31).toUInt32).toInt32) &&& (1 : Int32)))), .val (.ref b4)] [(.int (0 : Int32)), (.ref b4)])) (fun t k => XS.iconst X4.here hx rfl (hb hby d1_48) k) ?_
      refine own_preJ (B := T4.setTop (mkF m 50 #[.val (.int p1), .val (.int p2), .val (.int (p1 &&& (1 : Int32))), .val (.int (((p1 &&& (1 : Int32)) + (1 : Int32)) + (((p1.toUInt32 >>> ((1 : Int32) &&& 31).toUInt32).toInt32) &&& (1 : Int32)))), .val (.int (((((p1 &&& (1 : Int32)) + (1 : Int32)) + (((p1.toUInt32 >>> ((1 : Int32) &&& 31).toUInt32).toInt32) &&& (1 : Int32))) + (1 : Int32)) + (((p1.toUInt32 >>> ((2 : Int32) &&& 31).toUInt32).toInt32) &&& (1 : Int32)))), .val (.int (((((((p1 &&& (1 : Int32)) + (1 : Int32)) + (((p1.toUInt32 >>> ((1 : Int32) &&& 31).toUInt32).toInt32) &&& (1 : Int32))) + (1 : Int32)) + (((p1.toUInt32 >>> ((2 : Int32) &&& 31).toUInt32).toInt32) &&& (1 : Int32))) + (1 : Int32)) + (((p1.toUInt32 >>> ((3 : Int32) &&& 31).toUInt32).toInt32) &&& (1 : Int32)))), .val (.ref b4)] [(.int (p1 &&& (1 : Int32))), (.int (0 : Int32)), (.ref b4)])) (fun t k => XS.iloadN X4.here hx rfl (hb hby d1_49) rfl k) ?_
      obtain ⟨cl9, Ar9, q9, S9, N9v, H9v, G9v⟩ := V_b4
      have V_b4 : Arv Z h4 b4 k4 .int p2 [(.int (0 : Int32)), (.int (0 : Int32)), (.int (0 : Int32)), (.int (0 : Int32))] (.int (0 : Int32)) := ⟨cl9, Ar9, q9, S9, N9v, H9v, G9v⟩
      have hin9 : ¬ ((0 : Int32) < 0 ∨ cl9.slots.size ≤ ((0 : Int32)).toNatClampNeg) := inb_of S9 ⟨by decide, hc43_8⟩
      obtain ⟨T10, h10, X10, e10, W10, st10⟩ := stI X4 hx hZ e4 Ar9 (j := (0 : Int32)) hin9 (g := (mkF m 50 #[.val (.int p1), .val (.int p2), .val (.int (p1 &&& (1 : Int32))), .val (.int (((p1 &&& (1 : Int32)) + (1 : Int32)) + (((p1.toUInt32 >>> ((1 : Int32) &&& 31).toUInt32).toInt32) &&& (1 : Int32)))), .val (.int (((((p1 &&& (1 : Int32)) + (1 : Int32)) + (((p1.toUInt32 >>> ((1 : Int32) &&& 31).toUInt32).toInt32) &&& (1 : Int32))) + (1 : Int32)) + (((p1.toUInt32 >>> ((2 : Int32) &&& 31).toUInt32).toInt32) &&& (1 : Int32)))), .val (.int (((((((p1 &&& (1 : Int32)) + (1 : Int32)) + (((p1.toUInt32 >>> ((1 : Int32) &&& 31).toUInt32).toInt32) &&& (1 : Int32))) + (1 : Int32)) + (((p1.toUInt32 >>> ((2 : Int32) &&& 31).toUInt32).toInt32) &&& (1 : Int32))) + (1 : Int32)) + (((p1.toUInt32 >>> ((3 : Int32) &&& 31).toUInt32).toInt32) &&& (1 : Int32)))), .val (.ref b4)] [(.int (p1 &&& (1 : Int32))), (.int (0 : Int32)), (.ref b4)])) rfl rfl (hb hby d1_50)
      have V10 : Arv Z h10 b4 k4 .int p2 [(.int (p1 &&& (1 : Int32))), (.int (0 : Int32)), (.int (0 : Int32)), (.int (0 : Int32))] (.int (0 : Int32)) := Arv.set Ar9 q9 S9 N9v H9v G9v rfl W10 0 rfl (Nat.le_of_ble_eq_true rfl)
      have N10 := Fr.snoc X10 N0 g_b4
      obtain ⟨Lh11, Xh11, Nh11⟩ := own_hide X10 N10
      refine own_preJ (B := T10.setTop (mkF m 51 #[.val (.int p1), .val (.int p2), .val (.int (p1 &&& (1 : Int32))), .val (.int (((p1 &&& (1 : Int32)) + (1 : Int32)) + (((p1.toUInt32 >>> ((1 : Int32) &&& 31).toUInt32).toInt32) &&& (1 : Int32)))), .val (.int (((((p1 &&& (1 : Int32)) + (1 : Int32)) + (((p1.toUInt32 >>> ((1 : Int32) &&& 31).toUInt32).toInt32) &&& (1 : Int32))) + (1 : Int32)) + (((p1.toUInt32 >>> ((2 : Int32) &&& 31).toUInt32).toInt32) &&& (1 : Int32)))), .val (.int (((((((p1 &&& (1 : Int32)) + (1 : Int32)) + (((p1.toUInt32 >>> ((1 : Int32) &&& 31).toUInt32).toInt32) &&& (1 : Int32))) + (1 : Int32)) + (((p1.toUInt32 >>> ((2 : Int32) &&& 31).toUInt32).toInt32) &&& (1 : Int32))) + (1 : Int32)) + (((p1.toUInt32 >>> ((3 : Int32) &&& 31).toUInt32).toInt32) &&& (1 : Int32)))), .val (.ref b4)] [])) (fun t k => st10 t k) ?_
      rw [if_pos hc43_8] at hz5
      subst hz5
      have K12 : Keep h0 h10 [] := (Keep.wr K7 W10 (Or.inr s_b4))
      exact ⟨_, ⟨_, _, _, rfl, own_more Xh11 (by decide) (by decide), e10, Nh11, K12, V10⟩, fun t k => k⟩
    · refine own_preJ (B := T4.setTop (mkF m 51 #[.val (.int p1), .val (.int p2), .val (.int (p1 &&& (1 : Int32))), .val (.int (((p1 &&& (1 : Int32)) + (1 : Int32)) + (((p1.toUInt32 >>> ((1 : Int32) &&& 31).toUInt32).toInt32) &&& (1 : Int32)))), .val (.int (((((p1 &&& (1 : Int32)) + (1 : Int32)) + (((p1.toUInt32 >>> ((1 : Int32) &&& 31).toUInt32).toInt32) &&& (1 : Int32))) + (1 : Int32)) + (((p1.toUInt32 >>> ((2 : Int32) &&& 31).toUInt32).toInt32) &&& (1 : Int32)))), .val (.int (((((((p1 &&& (1 : Int32)) + (1 : Int32)) + (((p1.toUInt32 >>> ((1 : Int32) &&& 31).toUInt32).toInt32) &&& (1 : Int32))) + (1 : Int32)) + (((p1.toUInt32 >>> ((2 : Int32) &&& 31).toUInt32).toInt32) &&& (1 : Int32))) + (1 : Int32)) + (((p1.toUInt32 >>> ((3 : Int32) &&& 31).toUInt32).toInt32) &&& (1 : Int32)))), .val (.ref b4)] [])) (fun t k => XS.ifYes X4.here hx rfl (pc0 := 43) (pc' := 51) rfl (hb hby d1_43) rfl ((if0 _ _).trans (flt hc43_8).2.2.2) (by decide) (by decide) k) ?_
      rw [if_neg hc43_8] at hz5
      subst hz5
      exact ⟨_, ⟨_, _, _, rfl, own_more X4 (by decide) (by decide), e4, N0, K7, V_b4⟩, fun t k => k⟩
  refine own_pre (B := T6.setTop (mkF m 51 #[.val (.int p1), .val (.int p2), .val (.int (p1 &&& (1 : Int32))), .val (.int (((p1 &&& (1 : Int32)) + (1 : Int32)) + (((p1.toUInt32 >>> ((1 : Int32) &&& 31).toUInt32).toInt32) &&& (1 : Int32)))), .val (.int (((((p1 &&& (1 : Int32)) + (1 : Int32)) + (((p1.toUInt32 >>> ((1 : Int32) &&& 31).toUInt32).toInt32) &&& (1 : Int32))) + (1 : Int32)) + (((p1.toUInt32 >>> ((2 : Int32) &&& 31).toUInt32).toInt32) &&& (1 : Int32)))), .val (.int (((((((p1 &&& (1 : Int32)) + (1 : Int32)) + (((p1.toUInt32 >>> ((1 : Int32) &&& 31).toUInt32).toInt32) &&& (1 : Int32))) + (1 : Int32)) + (((p1.toUInt32 >>> ((2 : Int32) &&& 31).toUInt32).toInt32) &&& (1 : Int32))) + (1 : Int32)) + (((p1.toUInt32 >>> ((3 : Int32) &&& 31).toUInt32).toInt32) &&& (1 : Int32)))), .val (.ref b4)] [])) (fun t k => st6 t k) ?_
  refine own_pre (B := T6.setTop (mkF m 52 #[.val (.int p1), .val (.int p2), .val (.int (p1 &&& (1 : Int32))), .val (.int (((p1 &&& (1 : Int32)) + (1 : Int32)) + (((p1.toUInt32 >>> ((1 : Int32) &&& 31).toUInt32).toInt32) &&& (1 : Int32)))), .val (.int (((((p1 &&& (1 : Int32)) + (1 : Int32)) + (((p1.toUInt32 >>> ((1 : Int32) &&& 31).toUInt32).toInt32) &&& (1 : Int32))) + (1 : Int32)) + (((p1.toUInt32 >>> ((2 : Int32) &&& 31).toUInt32).toInt32) &&& (1 : Int32)))), .val (.int (((((((p1 &&& (1 : Int32)) + (1 : Int32)) + (((p1.toUInt32 >>> ((1 : Int32) &&& 31).toUInt32).toInt32) &&& (1 : Int32))) + (1 : Int32)) + (((p1.toUInt32 >>> ((2 : Int32) &&& 31).toUInt32).toInt32) &&& (1 : Int32))) + (1 : Int32)) + (((p1.toUInt32 >>> ((3 : Int32) &&& 31).toUInt32).toInt32) &&& (1 : Int32)))), .val (.ref b4)] [(.int p2)])) (fun t k => XS.iloadN X6.here hx rfl (hb hby d1_51) rfl k) ?_
  refine own_pre (B := T6.setTop (mkF m 53 #[.val (.int p1), .val (.int p2), .val (.int (p1 &&& (1 : Int32))), .val (.int (((p1 &&& (1 : Int32)) + (1 : Int32)) + (((p1.toUInt32 >>> ((1 : Int32) &&& 31).toUInt32).toInt32) &&& (1 : Int32)))), .val (.int (((((p1 &&& (1 : Int32)) + (1 : Int32)) + (((p1.toUInt32 >>> ((1 : Int32) &&& 31).toUInt32).toInt32) &&& (1 : Int32))) + (1 : Int32)) + (((p1.toUInt32 >>> ((2 : Int32) &&& 31).toUInt32).toInt32) &&& (1 : Int32)))), .val (.int (((((((p1 &&& (1 : Int32)) + (1 : Int32)) + (((p1.toUInt32 >>> ((1 : Int32) &&& 31).toUInt32).toInt32) &&& (1 : Int32))) + (1 : Int32)) + (((p1.toUInt32 >>> ((2 : Int32) &&& 31).toUInt32).toInt32) &&& (1 : Int32))) + (1 : Int32)) + (((p1.toUInt32 >>> ((3 : Int32) &&& 31).toUInt32).toInt32) &&& (1 : Int32)))), .val (.ref b4)] [(.int (1 : Int32)), (.int p2)])) (fun t k => XS.iconst X6.here hx rfl (hb hby d1_52) k) ?_
  obtain ⟨z13, hz13⟩ : ∃ z : Int32, z = (if (1 : Int32) < p2 then (((p1 &&& (1 : Int32)) + (1 : Int32)) + (((p1.toUInt32 >>> ((1 : Int32) &&& 31).toUInt32).toInt32) &&& (1 : Int32))) else (0 : Int32)) := ⟨_, rfl⟩
  obtain ⟨_, ⟨T14, h14, L14, rfl, X14, e14, N14, K14j, j14_0⟩, st14⟩ : own_J p.tables e below (fun B => ∃ (T' : State) (h' : Heap) (L' : List Loc), B = T'.setTop (mkF m 61 #[.val (.int p1), .val (.int p2), .val (.int (p1 &&& (1 : Int32))), .val (.int (((p1 &&& (1 : Int32)) + (1 : Int32)) + (((p1.toUInt32 >>> ((1 : Int32) &&& 31).toUInt32).toInt32) &&& (1 : Int32)))), .val (.int (((((p1 &&& (1 : Int32)) + (1 : Int32)) + (((p1.toUInt32 >>> ((1 : Int32) &&& 31).toUInt32).toInt32) &&& (1 : Int32))) + (1 : Int32)) + (((p1.toUInt32 >>> ((2 : Int32) &&& 31).toUInt32).toInt32) &&& (1 : Int32)))), .val (.int (((((((p1 &&& (1 : Int32)) + (1 : Int32)) + (((p1.toUInt32 >>> ((1 : Int32) &&& 31).toUInt32).toInt32) &&& (1 : Int32))) + (1 : Int32)) + (((p1.toUInt32 >>> ((2 : Int32) &&& 31).toUInt32).toInt32) &&& (1 : Int32))) + (1 : Int32)) + (((p1.toUInt32 >>> ((3 : Int32) &&& 31).toUInt32).toInt32) &&& (1 : Int32)))), .val (.ref b4)] []) ∧ Stand p l e ({ frames := 0, cells := 1, slots := 4, locals := 0 } : Room) s m #[(.int p1), (.int p2)] below meth c T' L' 1 4 ∧ T'.heap = h' ∧ Fr n0 L' ∧ Keep h0 h' [] ∧ Arv Z h' b4 k4 .int p2 [(.int z5), (.int z13), (.int (0 : Int32)), (.int (0 : Int32))] (.int (0 : Int32))) (T6.setTop (mkF m 53 #[.val (.int p1), .val (.int p2), .val (.int (p1 &&& (1 : Int32))), .val (.int (((p1 &&& (1 : Int32)) + (1 : Int32)) + (((p1.toUInt32 >>> ((1 : Int32) &&& 31).toUInt32).toInt32) &&& (1 : Int32)))), .val (.int (((((p1 &&& (1 : Int32)) + (1 : Int32)) + (((p1.toUInt32 >>> ((1 : Int32) &&& 31).toUInt32).toInt32) &&& (1 : Int32))) + (1 : Int32)) + (((p1.toUInt32 >>> ((2 : Int32) &&& 31).toUInt32).toInt32) &&& (1 : Int32)))), .val (.int (((((((p1 &&& (1 : Int32)) + (1 : Int32)) + (((p1.toUInt32 >>> ((1 : Int32) &&& 31).toUInt32).toInt32) &&& (1 : Int32))) + (1 : Int32)) + (((p1.toUInt32 >>> ((2 : Int32) &&& 31).toUInt32).toInt32) &&& (1 : Int32))) + (1 : Int32)) + (((p1.toUInt32 >>> ((3 : Int32) &&& 31).toUInt32).toInt32) &&& (1 : Int32)))), .val (.ref b4)] [(.int (1 : Int32)), (.int p2)])) := by
    by_cases hc53_15 : (1 : Int32) < p2
    · refine own_preJ (B := T6.setTop (mkF m 56 #[.val (.int p1), .val (.int p2), .val (.int (p1 &&& (1 : Int32))), .val (.int (((p1 &&& (1 : Int32)) + (1 : Int32)) + (((p1.toUInt32 >>> ((1 : Int32) &&& 31).toUInt32).toInt32) &&& (1 : Int32)))), .val (.int (((((p1 &&& (1 : Int32)) + (1 : Int32)) + (((p1.toUInt32 >>> ((1 : Int32) &&& 31).toUInt32).toInt32) &&& (1 : Int32))) + (1 : Int32)) + (((p1.toUInt32 >>> ((2 : Int32) &&& 31).toUInt32).toInt32) &&& (1 : Int32)))), .val (.int (((((((p1 &&& (1 : Int32)) + (1 : Int32)) + (((p1.toUInt32 >>> ((1 : Int32) &&& 31).toUInt32).toInt32) &&& (1 : Int32))) + (1 : Int32)) + (((p1.toUInt32 >>> ((2 : Int32) &&& 31).toUInt32).toInt32) &&& (1 : Int32))) + (1 : Int32)) + (((p1.toUInt32 >>> ((3 : Int32) &&& 31).toUInt32).toInt32) &&& (1 : Int32)))), .val (.ref b4)] [])) (fun t k => XS.icmpNo X6.here hx rfl (hb hby d1_53) rfl (tlt hc53_15).2.2.2 k) ?_
      refine own_preJ (B := T6.setTop (mkF m 58 #[.val (.int p1), .val (.int p2), .val (.int (p1 &&& (1 : Int32))), .val (.int (((p1 &&& (1 : Int32)) + (1 : Int32)) + (((p1.toUInt32 >>> ((1 : Int32) &&& 31).toUInt32).toInt32) &&& (1 : Int32)))), .val (.int (((((p1 &&& (1 : Int32)) + (1 : Int32)) + (((p1.toUInt32 >>> ((1 : Int32) &&& 31).toUInt32).toInt32) &&& (1 : Int32))) + (1 : Int32)) + (((p1.toUInt32 >>> ((2 : Int32) &&& 31).toUInt32).toInt32) &&& (1 : Int32)))), .val (.int (((((((p1 &&& (1 : Int32)) + (1 : Int32)) + (((p1.toUInt32 >>> ((1 : Int32) &&& 31).toUInt32).toInt32) &&& (1 : Int32))) + (1 : Int32)) + (((p1.toUInt32 >>> ((2 : Int32) &&& 31).toUInt32).toInt32) &&& (1 : Int32))) + (1 : Int32)) + (((p1.toUInt32 >>> ((3 : Int32) &&& 31).toUInt32).toInt32) &&& (1 : Int32)))), .val (.ref b4)] [(.ref b4)])) (fun t k => XS.aload X6.here hx rfl (hb hby d1_56) rfl rfl k) ?_
      refine own_preJ (B := T6.setTop (mkF m 59 #[.val (.int p1), .val (.int p2), .val (.int (p1 &&& (1 : Int32))), .val (.int (((p1 &&& (1 : Int32)) + (1 : Int32)) + (((p1.toUInt32 >>> ((1 : Int32) &&& 31).toUInt32).toInt32) &&& (1 : Int32)))), .val (.int (((((p1 &&& (1 : Int32)) + (1 : Int32)) + (((p1.toUInt32 >>> ((1 : Int32) &&& 31).toUInt32).toInt32) &&& (1 : Int32))) + (1 : Int32)) + (((p1.toUInt32 >>> ((2 : Int32) &&& 31).toUInt32).toInt32) &&& (1 : Int32)))), .val (.int (((((((p1 &&& (1 : Int32)) + (1 : Int32)) + (((p1.toUInt32 >>> ((1 : Int32) &&& 31).toUInt32).toInt32) &&& (1 : Int32))) + (1 : Int32)) + (((p1.toUInt32 >>> ((2 : Int32) &&& 31).toUInt32).toInt32) &&& (1 : Int32))) + (1 : Int32)) + (((p1.toUInt32 >>> ((3 : Int32) &&& 31).toUInt32).toInt32) &&& (1 : Int32)))), .val (.ref b4)] [(.int (1 : Int32)), (.ref b4)])) (fun t k => XS.iconst X6.here hx rfl (hb hby d1_58) k) ?_
      refine own_preJ (B := T6.setTop (mkF m 60 #[.val (.int p1), .val (.int p2), .val (.int (p1 &&& (1 : Int32))), .val (.int (((p1 &&& (1 : Int32)) + (1 : Int32)) + (((p1.toUInt32 >>> ((1 : Int32) &&& 31).toUInt32).toInt32) &&& (1 : Int32)))), .val (.int (((((p1 &&& (1 : Int32)) + (1 : Int32)) + (((p1.toUInt32 >>> ((1 : Int32) &&& 31).toUInt32).toInt32) &&& (1 : Int32))) + (1 : Int32)) + (((p1.toUInt32 >>> ((2 : Int32) &&& 31).toUInt32).toInt32) &&& (1 : Int32)))), .val (.int (((((((p1 &&& (1 : Int32)) + (1 : Int32)) + (((p1.toUInt32 >>> ((1 : Int32) &&& 31).toUInt32).toInt32) &&& (1 : Int32))) + (1 : Int32)) + (((p1.toUInt32 >>> ((2 : Int32) &&& 31).toUInt32).toInt32) &&& (1 : Int32))) + (1 : Int32)) + (((p1.toUInt32 >>> ((3 : Int32) &&& 31).toUInt32).toInt32) &&& (1 : Int32)))), .val (.ref b4)] [(.int (((p1 &&& (1 : Int32)) + (1 : Int32)) + (((p1.toUInt32 >>> ((1 : Int32) &&& 31).toUInt32).toInt32) &&& (1 : Int32)))), (.int (1 : Int32)), (.ref b4)])) (fun t k => XS.iloadN X6.here hx rfl (hb hby d1_59) rfl k) ?_
      obtain ⟨cl16, Ar16, q16, S16, N16v, H16v, G16v⟩ := j6_0
      have j6_0 : Arv Z h6 b4 k4 .int p2 [(.int z5), (.int (0 : Int32)), (.int (0 : Int32)), (.int (0 : Int32))] (.int (0 : Int32)) := ⟨cl16, Ar16, q16, S16, N16v, H16v, G16v⟩
      have hin16 : ¬ ((1 : Int32) < 0 ∨ cl16.slots.size ≤ ((1 : Int32)).toNatClampNeg) := inb_of S16 ⟨by decide, hc53_15⟩
      obtain ⟨T17, h17, X17, e17, W17, st17⟩ := stI X6 hx hZ e6 Ar16 (j := (1 : Int32)) hin16 (g := (mkF m 60 #[.val (.int p1), .val (.int p2), .val (.int (p1 &&& (1 : Int32))), .val (.int (((p1 &&& (1 : Int32)) + (1 : Int32)) + (((p1.toUInt32 >>> ((1 : Int32) &&& 31).toUInt32).toInt32) &&& (1 : Int32)))), .val (.int (((((p1 &&& (1 : Int32)) + (1 : Int32)) + (((p1.toUInt32 >>> ((1 : Int32) &&& 31).toUInt32).toInt32) &&& (1 : Int32))) + (1 : Int32)) + (((p1.toUInt32 >>> ((2 : Int32) &&& 31).toUInt32).toInt32) &&& (1 : Int32)))), .val (.int (((((((p1 &&& (1 : Int32)) + (1 : Int32)) + (((p1.toUInt32 >>> ((1 : Int32) &&& 31).toUInt32).toInt32) &&& (1 : Int32))) + (1 : Int32)) + (((p1.toUInt32 >>> ((2 : Int32) &&& 31).toUInt32).toInt32) &&& (1 : Int32))) + (1 : Int32)) + (((p1.toUInt32 >>> ((3 : Int32) &&& 31).toUInt32).toInt32) &&& (1 : Int32)))), .val (.ref b4)] [(.int (((p1 &&& (1 : Int32)) + (1 : Int32)) + (((p1.toUInt32 >>> ((1 : Int32) &&& 31).toUInt32).toInt32) &&& (1 : Int32)))), (.int (1 : Int32)), (.ref b4)])) rfl rfl (hb hby d1_60)
      have V17 : Arv Z h17 b4 k4 .int p2 [(.int z5), (.int (((p1 &&& (1 : Int32)) + (1 : Int32)) + (((p1.toUInt32 >>> ((1 : Int32) &&& 31).toUInt32).toInt32) &&& (1 : Int32)))), (.int (0 : Int32)), (.int (0 : Int32))] (.int (0 : Int32)) := Arv.set Ar16 q16 S16 N16v H16v G16v rfl W17 1 rfl (Nat.le_of_ble_eq_true rfl)
      have N17 := Fr.snoc X17 N6 g_b4
      obtain ⟨Lh18, Xh18, Nh18⟩ := own_hide X17 N17
      refine own_preJ (B := T17.setTop (mkF m 61 #[.val (.int p1), .val (.int p2), .val (.int (p1 &&& (1 : Int32))), .val (.int (((p1 &&& (1 : Int32)) + (1 : Int32)) + (((p1.toUInt32 >>> ((1 : Int32) &&& 31).toUInt32).toInt32) &&& (1 : Int32)))), .val (.int (((((p1 &&& (1 : Int32)) + (1 : Int32)) + (((p1.toUInt32 >>> ((1 : Int32) &&& 31).toUInt32).toInt32) &&& (1 : Int32))) + (1 : Int32)) + (((p1.toUInt32 >>> ((2 : Int32) &&& 31).toUInt32).toInt32) &&& (1 : Int32)))), .val (.int (((((((p1 &&& (1 : Int32)) + (1 : Int32)) + (((p1.toUInt32 >>> ((1 : Int32) &&& 31).toUInt32).toInt32) &&& (1 : Int32))) + (1 : Int32)) + (((p1.toUInt32 >>> ((2 : Int32) &&& 31).toUInt32).toInt32) &&& (1 : Int32))) + (1 : Int32)) + (((p1.toUInt32 >>> ((3 : Int32) &&& 31).toUInt32).toInt32) &&& (1 : Int32)))), .val (.ref b4)] [])) (fun t k => st17 t k) ?_
      rw [if_pos hc53_15] at hz13
      subst hz13
      have K19 : Keep h0 h17 [] := (Keep.wr K6j W17 (Or.inr s_b4))
      exact ⟨_, ⟨_, _, _, rfl, own_more Xh18 (by decide) (by decide), e17, Nh18, K19, V17⟩, fun t k => k⟩
    · refine own_preJ (B := T6.setTop (mkF m 61 #[.val (.int p1), .val (.int p2), .val (.int (p1 &&& (1 : Int32))), .val (.int (((p1 &&& (1 : Int32)) + (1 : Int32)) + (((p1.toUInt32 >>> ((1 : Int32) &&& 31).toUInt32).toInt32) &&& (1 : Int32)))), .val (.int (((((p1 &&& (1 : Int32)) + (1 : Int32)) + (((p1.toUInt32 >>> ((1 : Int32) &&& 31).toUInt32).toInt32) &&& (1 : Int32))) + (1 : Int32)) + (((p1.toUInt32 >>> ((2 : Int32) &&& 31).toUInt32).toInt32) &&& (1 : Int32)))), .val (.int (((((((p1 &&& (1 : Int32)) + (1 : Int32)) + (((p1.toUInt32 >>> ((1 : Int32) &&& 31).toUInt32).toInt32) &&& (1 : Int32))) + (1 : Int32)) + (((p1.toUInt32 >>> ((2 : Int32) &&& 31).toUInt32).toInt32) &&& (1 : Int32))) + (1 : Int32)) + (((p1.toUInt32 >>> ((3 : Int32) &&& 31).toUInt32).toInt32) &&& (1 : Int32)))), .val (.ref b4)] [])) (fun t k => XS.icmpYes X6.here hx rfl (pc0 := 53) (pc' := 61) rfl (hb hby d1_53) rfl (flt hc53_15).2.2.2 (by decide) (by decide) k) ?_
      rw [if_neg hc53_15] at hz13
      subst hz13
      exact ⟨_, ⟨_, _, _, rfl, own_more X6 (by decide) (by decide), e6, N6, K6j, j6_0⟩, fun t k => k⟩
  refine own_pre (B := T14.setTop (mkF m 61 #[.val (.int p1), .val (.int p2), .val (.int (p1 &&& (1 : Int32))), .val (.int (((p1 &&& (1 : Int32)) + (1 : Int32)) + (((p1.toUInt32 >>> ((1 : Int32) &&& 31).toUInt32).toInt32) &&& (1 : Int32)))), .val (.int (((((p1 &&& (1 : Int32)) + (1 : Int32)) + (((p1.toUInt32 >>> ((1 : Int32) &&& 31).toUInt32).toInt32) &&& (1 : Int32))) + (1 : Int32)) + (((p1.toUInt32 >>> ((2 : Int32) &&& 31).toUInt32).toInt32) &&& (1 : Int32)))), .val (.int (((((((p1 &&& (1 : Int32)) + (1 : Int32)) + (((p1.toUInt32 >>> ((1 : Int32) &&& 31).toUInt32).toInt32) &&& (1 : Int32))) + (1 : Int32)) + (((p1.toUInt32 >>> ((2 : Int32) &&& 31).toUInt32).toInt32) &&& (1 : Int32))) + (1 : Int32)) + (((p1.toUInt32 >>> ((3 : Int32) &&& 31).toUInt32).toInt32) &&& (1 : Int32)))), .val (.ref b4)] [])) (fun t k => st14 t k) ?_
  refine own_pre (B := T14.setTop (mkF m 62 #[.val (.int p1), .val (.int p2), .val (.int (p1 &&& (1 : Int32))), .val (.int (((p1 &&& (1 : Int32)) + (1 : Int32)) + (((p1.toUInt32 >>> ((1 : Int32) &&& 31).toUInt32).toInt32) &&& (1 : Int32)))), .val (.int (((((p1 &&& (1 : Int32)) + (1 : Int32)) + (((p1.toUInt32 >>> ((1 : Int32) &&& 31).toUInt32).toInt32) &&& (1 : Int32))) + (1 : Int32)) + (((p1.toUInt32 >>> ((2 : Int32) &&& 31).toUInt32).toInt32) &&& (1 : Int32)))), .val (.int (((((((p1 &&& (1 : Int32)) + (1 : Int32)) + (((p1.toUInt32 >>> ((1 : Int32) &&& 31).toUInt32).toInt32) &&& (1 : Int32))) + (1 : Int32)) + (((p1.toUInt32 >>> ((2 : Int32) &&& 31).toUInt32).toInt32) &&& (1 : Int32))) + (1 : Int32)) + (((p1.toUInt32 >>> ((3 : Int32) &&& 31).toUInt32).toInt32) &&& (1 : Int32)))), .val (.ref b4)] [(.int p2)])) (fun t k => XS.iloadN X14.here hx rfl (hb hby d1_61) rfl k) ?_
  refine own_pre (B := T14.setTop (mkF m 63 #[.val (.int p1), .val (.int p2), .val (.int (p1 &&& (1 : Int32))), .val (.int (((p1 &&& (1 : Int32)) + (1 : Int32)) + (((p1.toUInt32 >>> ((1 : Int32) &&& 31).toUInt32).toInt32) &&& (1 : Int32)))), .val (.int (((((p1 &&& (1 : Int32)) + (1 : Int32)) + (((p1.toUInt32 >>> ((1 : Int32) &&& 31).toUInt32).toInt32) &&& (1 : Int32))) + (1 : Int32)) + (((p1.toUInt32 >>> ((2 : Int32) &&& 31).toUInt32).toInt32) &&& (1 : Int32)))), .val (.int (((((((p1 &&& (1 : Int32)) + (1 : Int32)) + (((p1.toUInt32 >>> ((1 : Int32) &&& 31).toUInt32).toInt32) &&& (1 : Int32))) + (1 : Int32)) + (((p1.toUInt32 >>> ((2 : Int32) &&& 31).toUInt32).toInt32) &&& (1 : Int32))) + (1 : Int32)) + (((p1.toUInt32 >>> ((3 : Int32) &&& 31).toUInt32).toInt32) &&& (1 : Int32)))), .val (.ref b4)] [(.int (2 : Int32)), (.int p2)])) (fun t k => XS.iconst X14.here hx rfl (hb hby d1_62) k) ?_
  obtain ⟨z20, hz20⟩ : ∃ z : Int32, z = (if (2 : Int32) < p2 then (((((p1 &&& (1 : Int32)) + (1 : Int32)) + (((p1.toUInt32 >>> ((1 : Int32) &&& 31).toUInt32).toInt32) &&& (1 : Int32))) + (1 : Int32)) + (((p1.toUInt32 >>> ((2 : Int32) &&& 31).toUInt32).toInt32) &&& (1 : Int32))) else (0 : Int32)) := ⟨_, rfl⟩
  obtain ⟨_, ⟨T21, h21, L21, rfl, X21, e21, N21, K21j, j21_0⟩, st21⟩ : own_J p.tables e below (fun B => ∃ (T' : State) (h' : Heap) (L' : List Loc), B = T'.setTop (mkF m 72 #[.val (.int p1), .val (.int p2), .val (.int (p1 &&& (1 : Int32))), .val (.int (((p1 &&& (1 : Int32)) + (1 : Int32)) + (((p1.toUInt32 >>> ((1 : Int32) &&& 31).toUInt32).toInt32) &&& (1 : Int32)))), .val (.int (((((p1 &&& (1 : Int32)) + (1 : Int32)) + (((p1.toUInt32 >>> ((1 : Int32) &&& 31).toUInt32).toInt32) &&& (1 : Int32))) + (1 : Int32)) + (((p1.toUInt32 >>> ((2 : Int32) &&& 31).toUInt32).toInt32) &&& (1 : Int32)))), .val (.int (((((((p1 &&& (1 : Int32)) + (1 : Int32)) + (((p1.toUInt32 >>> ((1 : Int32) &&& 31).toUInt32).toInt32) &&& (1 : Int32))) + (1 : Int32)) + (((p1.toUInt32 >>> ((2 : Int32) &&& 31).toUInt32).toInt32) &&& (1 : Int32))) + (1 : Int32)) + (((p1.toUInt32 >>> ((3 : Int32) &&& 31).toUInt32).toInt32) &&& (1 : Int32)))), .val (.ref b4)] []) ∧ Stand p l e ({ frames := 0, cells := 1, slots := 4, locals := 0 } : Room) s m #[(.int p1), (.int p2)] below meth c T' L' 1 4 ∧ T'.heap = h' ∧ Fr n0 L' ∧ Keep h0 h' [] ∧ Arv Z h' b4 k4 .int p2 [(.int z5), (.int z13), (.int z20), (.int (0 : Int32))] (.int (0 : Int32))) (T14.setTop (mkF m 63 #[.val (.int p1), .val (.int p2), .val (.int (p1 &&& (1 : Int32))), .val (.int (((p1 &&& (1 : Int32)) + (1 : Int32)) + (((p1.toUInt32 >>> ((1 : Int32) &&& 31).toUInt32).toInt32) &&& (1 : Int32)))), .val (.int (((((p1 &&& (1 : Int32)) + (1 : Int32)) + (((p1.toUInt32 >>> ((1 : Int32) &&& 31).toUInt32).toInt32) &&& (1 : Int32))) + (1 : Int32)) + (((p1.toUInt32 >>> ((2 : Int32) &&& 31).toUInt32).toInt32) &&& (1 : Int32)))), .val (.int (((((((p1 &&& (1 : Int32)) + (1 : Int32)) + (((p1.toUInt32 >>> ((1 : Int32) &&& 31).toUInt32).toInt32) &&& (1 : Int32))) + (1 : Int32)) + (((p1.toUInt32 >>> ((2 : Int32) &&& 31).toUInt32).toInt32) &&& (1 : Int32))) + (1 : Int32)) + (((p1.toUInt32 >>> ((3 : Int32) &&& 31).toUInt32).toInt32) &&& (1 : Int32)))), .val (.ref b4)] [(.int (2 : Int32)), (.int p2)])) := by
    by_cases hc63_22 : (2 : Int32) < p2
    · refine own_preJ (B := T14.setTop (mkF m 66 #[.val (.int p1), .val (.int p2), .val (.int (p1 &&& (1 : Int32))), .val (.int (((p1 &&& (1 : Int32)) + (1 : Int32)) + (((p1.toUInt32 >>> ((1 : Int32) &&& 31).toUInt32).toInt32) &&& (1 : Int32)))), .val (.int (((((p1 &&& (1 : Int32)) + (1 : Int32)) + (((p1.toUInt32 >>> ((1 : Int32) &&& 31).toUInt32).toInt32) &&& (1 : Int32))) + (1 : Int32)) + (((p1.toUInt32 >>> ((2 : Int32) &&& 31).toUInt32).toInt32) &&& (1 : Int32)))), .val (.int (((((((p1 &&& (1 : Int32)) + (1 : Int32)) + (((p1.toUInt32 >>> ((1 : Int32) &&& 31).toUInt32).toInt32) &&& (1 : Int32))) + (1 : Int32)) + (((p1.toUInt32 >>> ((2 : Int32) &&& 31).toUInt32).toInt32) &&& (1 : Int32))) + (1 : Int32)) + (((p1.toUInt32 >>> ((3 : Int32) &&& 31).toUInt32).toInt32) &&& (1 : Int32)))), .val (.ref b4)] [])) (fun t k => XS.icmpNo X14.here hx rfl (hb hby d1_63) rfl (tlt hc63_22).2.2.2 k) ?_
      refine own_preJ (B := T14.setTop (mkF m 68 #[.val (.int p1), .val (.int p2), .val (.int (p1 &&& (1 : Int32))), .val (.int (((p1 &&& (1 : Int32)) + (1 : Int32)) + (((p1.toUInt32 >>> ((1 : Int32) &&& 31).toUInt32).toInt32) &&& (1 : Int32)))), .val (.int (((((p1 &&& (1 : Int32)) + (1 : Int32)) + (((p1.toUInt32 >>> ((1 : Int32) &&& 31).toUInt32).toInt32) &&& (1 : Int32))) + (1 : Int32)) + (((p1.toUInt32 >>> ((2 : Int32) &&& 31).toUInt32).toInt32) &&& (1 : Int32)))), .val (.int (((((((p1 &&& (1 : Int32)) + (1 : Int32)) + (((p1.toUInt32 >>> ((1 : Int32) &&& 31).toUInt32).toInt32) &&& (1 : Int32))) + (1 : Int32)) + (((p1.toUInt32 >>> ((2 : Int32) &&& 31).toUInt32).toInt32) &&& (1 : Int32))) + (1 : Int32)) + (((p1.toUInt32 >>> ((3 : Int32) &&& 31).toUInt32).toInt32) &&& (1 : Int32)))), .val (.ref b4)] [(.ref b4)])) (fun t k => XS.aload X14.here hx rfl (hb hby d1_66) rfl rfl k) ?_
      refine own_preJ (B := T14.setTop (mkF m 69 #[.val (.int p1), .val (.int p2), .val (.int (p1 &&& (1 : Int32))), .val (.int (((p1 &&& (1 : Int32)) + (1 : Int32)) + (((p1.toUInt32 >>> ((1 : Int32) &&& 31).toUInt32).toInt32) &&& (1 : Int32)))), .val (.int (((((p1 &&& (1 : Int32)) + (1 : Int32)) + (((p1.toUInt32 >>> ((1 : Int32) &&& 31).toUInt32).toInt32) &&& (1 : Int32))) + (1 : Int32)) + (((p1.toUInt32 >>> ((2 : Int32) &&& 31).toUInt32).toInt32) &&& (1 : Int32)))), .val (.int (((((((p1 &&& (1 : Int32)) + (1 : Int32)) + (((p1.toUInt32 >>> ((1 : Int32) &&& 31).toUInt32).toInt32) &&& (1 : Int32))) + (1 : Int32)) + (((p1.toUInt32 >>> ((2 : Int32) &&& 31).toUInt32).toInt32) &&& (1 : Int32))) + (1 : Int32)) + (((p1.toUInt32 >>> ((3 : Int32) &&& 31).toUInt32).toInt32) &&& (1 : Int32)))), .val (.ref b4)] [(.int (2 : Int32)), (.ref b4)])) (fun t k => XS.iconst X14.here hx rfl (hb hby d1_68) k) ?_
      refine own_preJ (B := T14.setTop (mkF m 71 #[.val (.int p1), .val (.int p2), .val (.int (p1 &&& (1 : Int32))), .val (.int (((p1 &&& (1 : Int32)) + (1 : Int32)) + (((p1.toUInt32 >>> ((1 : Int32) &&& 31).toUInt32).toInt32) &&& (1 : Int32)))), .val (.int (((((p1 &&& (1 : Int32)) + (1 : Int32)) + (((p1.toUInt32 >>> ((1 : Int32) &&& 31).toUInt32).toInt32) &&& (1 : Int32))) + (1 : Int32)) + (((p1.toUInt32 >>> ((2 : Int32) &&& 31).toUInt32).toInt32) &&& (1 : Int32)))), .val (.int (((((((p1 &&& (1 : Int32)) + (1 : Int32)) + (((p1.toUInt32 >>> ((1 : Int32) &&& 31).toUInt32).toInt32) &&& (1 : Int32))) + (1 : Int32)) + (((p1.toUInt32 >>> ((2 : Int32) &&& 31).toUInt32).toInt32) &&& (1 : Int32))) + (1 : Int32)) + (((p1.toUInt32 >>> ((3 : Int32) &&& 31).toUInt32).toInt32) &&& (1 : Int32)))), .val (.ref b4)] [(.int (((((p1 &&& (1 : Int32)) + (1 : Int32)) + (((p1.toUInt32 >>> ((1 : Int32) &&& 31).toUInt32).toInt32) &&& (1 : Int32))) + (1 : Int32)) + (((p1.toUInt32 >>> ((2 : Int32) &&& 31).toUInt32).toInt32) &&& (1 : Int32)))), (.int (2 : Int32)), (.ref b4)])) (fun t k => XS.iload X14.here hx rfl (hb hby d1_69) rfl k) ?_
      obtain ⟨cl23, Ar23, q23, S23, N23v, H23v, G23v⟩ := j14_0
      have j14_0 : Arv Z h14 b4 k4 .int p2 [(.int z5), (.int z13), (.int (0 : Int32)), (.int (0 : Int32))] (.int (0 : Int32)) := ⟨cl23, Ar23, q23, S23, N23v, H23v, G23v⟩
      have hin23 : ¬ ((2 : Int32) < 0 ∨ cl23.slots.size ≤ ((2 : Int32)).toNatClampNeg) := inb_of S23 ⟨by decide, hc63_22⟩
      obtain ⟨T24, h24, X24, e24, W24, st24⟩ := stI X14 hx hZ e14 Ar23 (j := (2 : Int32)) hin23 (g := (mkF m 71 #[.val (.int p1), .val (.int p2), .val (.int (p1 &&& (1 : Int32))), .val (.int (((p1 &&& (1 : Int32)) + (1 : Int32)) + (((p1.toUInt32 >>> ((1 : Int32) &&& 31).toUInt32).toInt32) &&& (1 : Int32)))), .val (.int (((((p1 &&& (1 : Int32)) + (1 : Int32)) + (((p1.toUInt32 >>> ((1 : Int32) &&& 31).toUInt32).toInt32) &&& (1 : Int32))) + (1 : Int32)) + (((p1.toUInt32 >>> ((2 : Int32) &&& 31).toUInt32).toInt32) &&& (1 : Int32)))), .val (.int (((((((p1 &&& (1 : Int32)) + (1 : Int32)) + (((p1.toUInt32 >>> ((1 : Int32) &&& 31).toUInt32).toInt32) &&& (1 : Int32))) + (1 : Int32)) + (((p1.toUInt32 >>> ((2 : Int32) &&& 31).toUInt32).toInt32) &&& (1 : Int32))) + (1 : Int32)) + (((p1.toUInt32 >>> ((3 : Int32) &&& 31).toUInt32).toInt32) &&& (1 : Int32)))), .val (.ref b4)] [(.int (((((p1 &&& (1 : Int32)) + (1 : Int32)) + (((p1.toUInt32 >>> ((1 : Int32) &&& 31).toUInt32).toInt32) &&& (1 : Int32))) + (1 : Int32)) + (((p1.toUInt32 >>> ((2 : Int32) &&& 31).toUInt32).toInt32) &&& (1 : Int32)))), (.int (2 : Int32)), (.ref b4)])) rfl rfl (hb hby d1_71)
      have V24 : Arv Z h24 b4 k4 .int p2 [(.int z5), (.int z13), (.int (((((p1 &&& (1 : Int32)) + (1 : Int32)) + (((p1.toUInt32 >>> ((1 : Int32) &&& 31).toUInt32).toInt32) &&& (1 : Int32))) + (1 : Int32)) + (((p1.toUInt32 >>> ((2 : Int32) &&& 31).toUInt32).toInt32) &&& (1 : Int32)))), (.int (0 : Int32))] (.int (0 : Int32)) := Arv.set Ar23 q23 S23 N23v H23v G23v rfl W24 2 rfl (Nat.le_of_ble_eq_true rfl)
      have N24 := Fr.snoc X24 N14 g_b4
      obtain ⟨Lh25, Xh25, Nh25⟩ := own_hide X24 N24
      refine own_preJ (B := T24.setTop (mkF m 72 #[.val (.int p1), .val (.int p2), .val (.int (p1 &&& (1 : Int32))), .val (.int (((p1 &&& (1 : Int32)) + (1 : Int32)) + (((p1.toUInt32 >>> ((1 : Int32) &&& 31).toUInt32).toInt32) &&& (1 : Int32)))), .val (.int (((((p1 &&& (1 : Int32)) + (1 : Int32)) + (((p1.toUInt32 >>> ((1 : Int32) &&& 31).toUInt32).toInt32) &&& (1 : Int32))) + (1 : Int32)) + (((p1.toUInt32 >>> ((2 : Int32) &&& 31).toUInt32).toInt32) &&& (1 : Int32)))), .val (.int (((((((p1 &&& (1 : Int32)) + (1 : Int32)) + (((p1.toUInt32 >>> ((1 : Int32) &&& 31).toUInt32).toInt32) &&& (1 : Int32))) + (1 : Int32)) + (((p1.toUInt32 >>> ((2 : Int32) &&& 31).toUInt32).toInt32) &&& (1 : Int32))) + (1 : Int32)) + (((p1.toUInt32 >>> ((3 : Int32) &&& 31).toUInt32).toInt32) &&& (1 : Int32)))), .val (.ref b4)] [])) (fun t k => st24 t k) ?_
      rw [if_pos hc63_22] at hz20
      subst hz20
      have K26 : Keep h0 h24 [] := (Keep.wr K14j W24 (Or.inr s_b4))
      exact ⟨_, ⟨_, _, _, rfl, own_more Xh25 (by decide) (by decide), e24, Nh25, K26, V24⟩, fun t k => k⟩
    · refine own_preJ (B := T14.setTop (mkF m 72 #[.val (.int p1), .val (.int p2), .val (.int (p1 &&& (1 : Int32))), .val (.int (((p1 &&& (1 : Int32)) + (1 : Int32)) + (((p1.toUInt32 >>> ((1 : Int32) &&& 31).toUInt32).toInt32) &&& (1 : Int32)))), .val (.int (((((p1 &&& (1 : Int32)) + (1 : Int32)) + (((p1.toUInt32 >>> ((1 : Int32) &&& 31).toUInt32).toInt32) &&& (1 : Int32))) + (1 : Int32)) + (((p1.toUInt32 >>> ((2 : Int32) &&& 31).toUInt32).toInt32) &&& (1 : Int32)))), .val (.int (((((((p1 &&& (1 : Int32)) + (1 : Int32)) + (((p1.toUInt32 >>> ((1 : Int32) &&& 31).toUInt32).toInt32) &&& (1 : Int32))) + (1 : Int32)) + (((p1.toUInt32 >>> ((2 : Int32) &&& 31).toUInt32).toInt32) &&& (1 : Int32))) + (1 : Int32)) + (((p1.toUInt32 >>> ((3 : Int32) &&& 31).toUInt32).toInt32) &&& (1 : Int32)))), .val (.ref b4)] [])) (fun t k => XS.icmpYes X14.here hx rfl (pc0 := 63) (pc' := 72) rfl (hb hby d1_63) rfl (flt hc63_22).2.2.2 (by decide) (by decide) k) ?_
      rw [if_neg hc63_22] at hz20
      subst hz20
      exact ⟨_, ⟨_, _, _, rfl, own_more X14 (by decide) (by decide), e14, N14, K14j, j14_0⟩, fun t k => k⟩
  refine own_pre (B := T21.setTop (mkF m 72 #[.val (.int p1), .val (.int p2), .val (.int (p1 &&& (1 : Int32))), .val (.int (((p1 &&& (1 : Int32)) + (1 : Int32)) + (((p1.toUInt32 >>> ((1 : Int32) &&& 31).toUInt32).toInt32) &&& (1 : Int32)))), .val (.int (((((p1 &&& (1 : Int32)) + (1 : Int32)) + (((p1.toUInt32 >>> ((1 : Int32) &&& 31).toUInt32).toInt32) &&& (1 : Int32))) + (1 : Int32)) + (((p1.toUInt32 >>> ((2 : Int32) &&& 31).toUInt32).toInt32) &&& (1 : Int32)))), .val (.int (((((((p1 &&& (1 : Int32)) + (1 : Int32)) + (((p1.toUInt32 >>> ((1 : Int32) &&& 31).toUInt32).toInt32) &&& (1 : Int32))) + (1 : Int32)) + (((p1.toUInt32 >>> ((2 : Int32) &&& 31).toUInt32).toInt32) &&& (1 : Int32))) + (1 : Int32)) + (((p1.toUInt32 >>> ((3 : Int32) &&& 31).toUInt32).toInt32) &&& (1 : Int32)))), .val (.ref b4)] [])) (fun t k => st21 t k) ?_
  refine own_pre (B := T21.setTop (mkF m 73 #[.val (.int p1), .val (.int p2), .val (.int (p1 &&& (1 : Int32))), .val (.int (((p1 &&& (1 : Int32)) + (1 : Int32)) + (((p1.toUInt32 >>> ((1 : Int32) &&& 31).toUInt32).toInt32) &&& (1 : Int32)))), .val (.int (((((p1 &&& (1 : Int32)) + (1 : Int32)) + (((p1.toUInt32 >>> ((1 : Int32) &&& 31).toUInt32).toInt32) &&& (1 : Int32))) + (1 : Int32)) + (((p1.toUInt32 >>> ((2 : Int32) &&& 31).toUInt32).toInt32) &&& (1 : Int32)))), .val (.int (((((((p1 &&& (1 : Int32)) + (1 : Int32)) + (((p1.toUInt32 >>> ((1 : Int32) &&& 31).toUInt32).toInt32) &&& (1 : Int32))) + (1 : Int32)) + (((p1.toUInt32 >>> ((2 : Int32) &&& 31).toUInt32).toInt32) &&& (1 : Int32))) + (1 : Int32)) + (((p1.toUInt32 >>> ((3 : Int32) &&& 31).toUInt32).toInt32) &&& (1 : Int32)))), .val (.ref b4)] [(.int p2)])) (fun t k => XS.iloadN X21.here hx rfl (hb hby d1_72) rfl k) ?_
  refine own_pre (B := T21.setTop (mkF m 74 #[.val (.int p1), .val (.int p2), .val (.int (p1 &&& (1 : Int32))), .val (.int (((p1 &&& (1 : Int32)) + (1 : Int32)) + (((p1.toUInt32 >>> ((1 : Int32) &&& 31).toUInt32).toInt32) &&& (1 : Int32)))), .val (.int (((((p1 &&& (1 : Int32)) + (1 : Int32)) + (((p1.toUInt32 >>> ((1 : Int32) &&& 31).toUInt32).toInt32) &&& (1 : Int32))) + (1 : Int32)) + (((p1.toUInt32 >>> ((2 : Int32) &&& 31).toUInt32).toInt32) &&& (1 : Int32)))), .val (.int (((((((p1 &&& (1 : Int32)) + (1 : Int32)) + (((p1.toUInt32 >>> ((1 : Int32) &&& 31).toUInt32).toInt32) &&& (1 : Int32))) + (1 : Int32)) + (((p1.toUInt32 >>> ((2 : Int32) &&& 31).toUInt32).toInt32) &&& (1 : Int32))) + (1 : Int32)) + (((p1.toUInt32 >>> ((3 : Int32) &&& 31).toUInt32).toInt32) &&& (1 : Int32)))), .val (.ref b4)] [(.int (3 : Int32)), (.int p2)])) (fun t k => XS.iconst X21.here hx rfl (hb hby d1_73) k) ?_
  obtain ⟨z27, hz27⟩ : ∃ z : Int32, z = (if (3 : Int32) < p2 then (((((((p1 &&& (1 : Int32)) + (1 : Int32)) + (((p1.toUInt32 >>> ((1 : Int32) &&& 31).toUInt32).toInt32) &&& (1 : Int32))) + (1 : Int32)) + (((p1.toUInt32 >>> ((2 : Int32) &&& 31).toUInt32).toInt32) &&& (1 : Int32))) + (1 : Int32)) + (((p1.toUInt32 >>> ((3 : Int32) &&& 31).toUInt32).toInt32) &&& (1 : Int32))) else (0 : Int32)) := ⟨_, rfl⟩
  obtain ⟨_, ⟨T28, h28, L28, rfl, X28, e28, N28, K28j, j28_0⟩, st28⟩ : own_J p.tables e below (fun B => ∃ (T' : State) (h' : Heap) (L' : List Loc), B = T'.setTop (mkF m 83 #[.val (.int p1), .val (.int p2), .val (.int (p1 &&& (1 : Int32))), .val (.int (((p1 &&& (1 : Int32)) + (1 : Int32)) + (((p1.toUInt32 >>> ((1 : Int32) &&& 31).toUInt32).toInt32) &&& (1 : Int32)))), .val (.int (((((p1 &&& (1 : Int32)) + (1 : Int32)) + (((p1.toUInt32 >>> ((1 : Int32) &&& 31).toUInt32).toInt32) &&& (1 : Int32))) + (1 : Int32)) + (((p1.toUInt32 >>> ((2 : Int32) &&& 31).toUInt32).toInt32) &&& (1 : Int32)))), .val (.int (((((((p1 &&& (1 : Int32)) + (1 : Int32)) + (((p1.toUInt32 >>> ((1 : Int32) &&& 31).toUInt32).toInt32) &&& (1 : Int32))) + (1 : Int32)) + (((p1.toUInt32 >>> ((2 : Int32) &&& 31).toUInt32).toInt32) &&& (1 : Int32))) + (1 : Int32)) + (((p1.toUInt32 >>> ((3 : Int32) &&& 31).toUInt32).toInt32) &&& (1 : Int32)))), .val (.ref b4)] []) ∧ Stand p l e ({ frames := 0, cells := 1, slots := 4, locals := 0 } : Room) s m #[(.int p1), (.int p2)] below meth c T' L' 1 4 ∧ T'.heap = h' ∧ Fr n0 L' ∧ Keep h0 h' [] ∧ Arv Z h' b4 k4 .int p2 [(.int z5), (.int z13), (.int z20), (.int z27)] (.int (0 : Int32))) (T21.setTop (mkF m 74 #[.val (.int p1), .val (.int p2), .val (.int (p1 &&& (1 : Int32))), .val (.int (((p1 &&& (1 : Int32)) + (1 : Int32)) + (((p1.toUInt32 >>> ((1 : Int32) &&& 31).toUInt32).toInt32) &&& (1 : Int32)))), .val (.int (((((p1 &&& (1 : Int32)) + (1 : Int32)) + (((p1.toUInt32 >>> ((1 : Int32) &&& 31).toUInt32).toInt32) &&& (1 : Int32))) + (1 : Int32)) + (((p1.toUInt32 >>> ((2 : Int32) &&& 31).toUInt32).toInt32) &&& (1 : Int32)))), .val (.int (((((((p1 &&& (1 : Int32)) + (1 : Int32)) + (((p1.toUInt32 >>> ((1 : Int32) &&& 31).toUInt32).toInt32) &&& (1 : Int32))) + (1 : Int32)) + (((p1.toUInt32 >>> ((2 : Int32) &&& 31).toUInt32).toInt32) &&& (1 : Int32))) + (1 : Int32)) + (((p1.toUInt32 >>> ((3 : Int32) &&& 31).toUInt32).toInt32) &&& (1 : Int32)))), .val (.ref b4)] [(.int (3 : Int32)), (.int p2)])) := by
    by_cases hc74_29 : (3 : Int32) < p2
    · refine own_preJ (B := T21.setTop (mkF m 77 #[.val (.int p1), .val (.int p2), .val (.int (p1 &&& (1 : Int32))), .val (.int (((p1 &&& (1 : Int32)) + (1 : Int32)) + (((p1.toUInt32 >>> ((1 : Int32) &&& 31).toUInt32).toInt32) &&& (1 : Int32)))), .val (.int (((((p1 &&& (1 : Int32)) + (1 : Int32)) + (((p1.toUInt32 >>> ((1 : Int32) &&& 31).toUInt32).toInt32) &&& (1 : Int32))) + (1 : Int32)) + (((p1.toUInt32 >>> ((2 : Int32) &&& 31).toUInt32).toInt32) &&& (1 : Int32)))), .val (.int (((((((p1 &&& (1 : Int32)) + (1 : Int32)) + (((p1.toUInt32 >>> ((1 : Int32) &&& 31).toUInt32).toInt32) &&& (1 : Int32))) + (1 : Int32)) + (((p1.toUInt32 >>> ((2 : Int32) &&& 31).toUInt32).toInt32) &&& (1 : Int32))) + (1 : Int32)) + (((p1.toUInt32 >>> ((3 : Int32) &&& 31).toUInt32).toInt32) &&& (1 : Int32)))), .val (.ref b4)] [])) (fun t k => XS.icmpNo X21.here hx rfl (hb hby d1_74) rfl (tlt hc74_29).2.2.2 k) ?_
      refine own_preJ (B := T21.setTop (mkF m 79 #[.val (.int p1), .val (.int p2), .val (.int (p1 &&& (1 : Int32))), .val (.int (((p1 &&& (1 : Int32)) + (1 : Int32)) + (((p1.toUInt32 >>> ((1 : Int32) &&& 31).toUInt32).toInt32) &&& (1 : Int32)))), .val (.int (((((p1 &&& (1 : Int32)) + (1 : Int32)) + (((p1.toUInt32 >>> ((1 : Int32) &&& 31).toUInt32).toInt32) &&& (1 : Int32))) + (1 : Int32)) + (((p1.toUInt32 >>> ((2 : Int32) &&& 31).toUInt32).toInt32) &&& (1 : Int32)))), .val (.int (((((((p1 &&& (1 : Int32)) + (1 : Int32)) + (((p1.toUInt32 >>> ((1 : Int32) &&& 31).toUInt32).toInt32) &&& (1 : Int32))) + (1 : Int32)) + (((p1.toUInt32 >>> ((2 : Int32) &&& 31).toUInt32).toInt32) &&& (1 : Int32))) + (1 : Int32)) + (((p1.toUInt32 >>> ((3 : Int32) &&& 31).toUInt32).toInt32) &&& (1 : Int32)))), .val (.ref b4)] [(.ref b4)])) (fun t k => XS.aload X21.here hx rfl (hb hby d1_77) rfl rfl k) ?_
      refine own_preJ (B := T21.setTop (mkF m 80 #[.val (.int p1), .val (.int p2), .val (.int (p1 &&& (1 : Int32))), .val (.int (((p1 &&& (1 : Int32)) + (1 : Int32)) + (((p1.toUInt32 >>> ((1 : Int32) &&& 31).toUInt32).toInt32) &&& (1 : Int32)))), .val (.int (((((p1 &&& (1 : Int32)) + (1 : Int32)) + (((p1.toUInt32 >>> ((1 : Int32) &&& 31).toUInt32).toInt32) &&& (1 : Int32))) + (1 : Int32)) + (((p1.toUInt32 >>> ((2 : Int32) &&& 31).toUInt32).toInt32) &&& (1 : Int32)))), .val (.int (((((((p1 &&& (1 : Int32)) + (1 : Int32)) + (((p1.toUInt32 >>> ((1 : Int32) &&& 31).toUInt32).toInt32) &&& (1 : Int32))) + (1 : Int32)) + (((p1.toUInt32 >>> ((2 : Int32) &&& 31).toUInt32).toInt32) &&& (1 : Int32))) + (1 : Int32)) + (((p1.toUInt32 >>> ((3 : Int32) &&& 31).toUInt32).toInt32) &&& (1 : Int32)))), .val (.ref b4)] [(.int (3 : Int32)), (.ref b4)])) (fun t k => XS.iconst X21.here hx rfl (hb hby d1_79) k) ?_
      refine own_preJ (B := T21.setTop (mkF m 82 #[.val (.int p1), .val (.int p2), .val (.int (p1 &&& (1 : Int32))), .val (.int (((p1 &&& (1 : Int32)) + (1 : Int32)) + (((p1.toUInt32 >>> ((1 : Int32) &&& 31).toUInt32).toInt32) &&& (1 : Int32)))), .val (.int (((((p1 &&& (1 : Int32)) + (1 : Int32)) + (((p1.toUInt32 >>> ((1 : Int32) &&& 31).toUInt32).toInt32) &&& (1 : Int32))) + (1 : Int32)) + (((p1.toUInt32 >>> ((2 : Int32) &&& 31).toUInt32).toInt32) &&& (1 : Int32)))), .val (.int (((((((p1 &&& (1 : Int32)) + (1 : Int32)) + (((p1.toUInt32 >>> ((1 : Int32) &&& 31).toUInt32).toInt32) &&& (1 : Int32))) + (1 : Int32)) + (((p1.toUInt32 >>> ((2 : Int32) &&& 31).toUInt32).toInt32) &&& (1 : Int32))) + (1 : Int32)) + (((p1.toUInt32 >>> ((3 : Int32) &&& 31).toUInt32).toInt32) &&& (1 : Int32)))), .val (.ref b4)] [(.int (((((((p1 &&& (1 : Int32)) + (1 : Int32)) + (((p1.toUInt32 >>> ((1 : Int32) &&& 31).toUInt32).toInt32) &&& (1 : Int32))) + (1 : Int32)) + (((p1.toUInt32 >>> ((2 : Int32) &&& 31).toUInt32).toInt32) &&& (1 : Int32))) + (1 : Int32)) + (((p1.toUInt32 >>> ((3 : Int32) &&& 31).toUInt32).toInt32) &&& (1 : Int32)))), (.int (3 : Int32)), (.ref b4)])) (fun t k => XS.iload X21.here hx rfl (hb hby d1_80) rfl k) ?_
      obtain ⟨cl30, Ar30, q30, S30, N30v, H30v, G30v⟩ := j21_0
      have j21_0 : Arv Z h21 b4 k4 .int p2 [(.int z5), (.int z13), (.int z20), (.int (0 : Int32))] (.int (0 : Int32)) := ⟨cl30, Ar30, q30, S30, N30v, H30v, G30v⟩
      have hin30 : ¬ ((3 : Int32) < 0 ∨ cl30.slots.size ≤ ((3 : Int32)).toNatClampNeg) := inb_of S30 ⟨by decide, hc74_29⟩
      obtain ⟨T31, h31, X31, e31, W31, st31⟩ := stI X21 hx hZ e21 Ar30 (j := (3 : Int32)) hin30 (g := (mkF m 82 #[.val (.int p1), .val (.int p2), .val (.int (p1 &&& (1 : Int32))), .val (.int (((p1 &&& (1 : Int32)) + (1 : Int32)) + (((p1.toUInt32 >>> ((1 : Int32) &&& 31).toUInt32).toInt32) &&& (1 : Int32)))), .val (.int (((((p1 &&& (1 : Int32)) + (1 : Int32)) + (((p1.toUInt32 >>> ((1 : Int32) &&& 31).toUInt32).toInt32) &&& (1 : Int32))) + (1 : Int32)) + (((p1.toUInt32 >>> ((2 : Int32) &&& 31).toUInt32).toInt32) &&& (1 : Int32)))), .val (.int (((((((p1 &&& (1 : Int32)) + (1 : Int32)) + (((p1.toUInt32 >>> ((1 : Int32) &&& 31).toUInt32).toInt32) &&& (1 : Int32))) + (1 : Int32)) + (((p1.toUInt32 >>> ((2 : Int32) &&& 31).toUInt32).toInt32) &&& (1 : Int32))) + (1 : Int32)) + (((p1.toUInt32 >>> ((3 : Int32) &&& 31).toUInt32).toInt32) &&& (1 : Int32)))), .val (.ref b4)] [(.int (((((((p1 &&& (1 : Int32)) + (1 : Int32)) + (((p1.toUInt32 >>> ((1 : Int32) &&& 31).toUInt32).toInt32) &&& (1 : Int32))) + (1 : Int32)) + (((p1.toUInt32 >>> ((2 : Int32) &&& 31).toUInt32).toInt32) &&& (1 : Int32))) + (1 : Int32)) + (((p1.toUInt32 >>> ((3 : Int32) &&& 31).toUInt32).toInt32) &&& (1 : Int32)))), (.int (3 : Int32)), (.ref b4)])) rfl rfl (hb hby d1_82)
      have V31 : Arv Z h31 b4 k4 .int p2 [(.int z5), (.int z13), (.int z20), (.int (((((((p1 &&& (1 : Int32)) + (1 : Int32)) + (((p1.toUInt32 >>> ((1 : Int32) &&& 31).toUInt32).toInt32) &&& (1 : Int32))) + (1 : Int32)) + (((p1.toUInt32 >>> ((2 : Int32) &&& 31).toUInt32).toInt32) &&& (1 : Int32))) + (1 : Int32)) + (((p1.toUInt32 >>> ((3 : Int32) &&& 31).toUInt32).toInt32) &&& (1 : Int32))))] (.int (0 : Int32)) := Arv.set Ar30 q30 S30 N30v H30v G30v rfl W31 3 rfl (Nat.le_of_ble_eq_true rfl)
      have N31 := Fr.snoc X31 N21 g_b4
      obtain ⟨Lh32, Xh32, Nh32⟩ := own_hide X31 N31
      refine own_preJ (B := T31.setTop (mkF m 83 #[.val (.int p1), .val (.int p2), .val (.int (p1 &&& (1 : Int32))), .val (.int (((p1 &&& (1 : Int32)) + (1 : Int32)) + (((p1.toUInt32 >>> ((1 : Int32) &&& 31).toUInt32).toInt32) &&& (1 : Int32)))), .val (.int (((((p1 &&& (1 : Int32)) + (1 : Int32)) + (((p1.toUInt32 >>> ((1 : Int32) &&& 31).toUInt32).toInt32) &&& (1 : Int32))) + (1 : Int32)) + (((p1.toUInt32 >>> ((2 : Int32) &&& 31).toUInt32).toInt32) &&& (1 : Int32)))), .val (.int (((((((p1 &&& (1 : Int32)) + (1 : Int32)) + (((p1.toUInt32 >>> ((1 : Int32) &&& 31).toUInt32).toInt32) &&& (1 : Int32))) + (1 : Int32)) + (((p1.toUInt32 >>> ((2 : Int32) &&& 31).toUInt32).toInt32) &&& (1 : Int32))) + (1 : Int32)) + (((p1.toUInt32 >>> ((3 : Int32) &&& 31).toUInt32).toInt32) &&& (1 : Int32)))), .val (.ref b4)] [])) (fun t k => st31 t k) ?_
      rw [if_pos hc74_29] at hz27
      subst hz27
      have K33 : Keep h0 h31 [] := (Keep.wr K21j W31 (Or.inr s_b4))
      exact ⟨_, ⟨_, _, _, rfl, own_more Xh32 (by decide) (by decide), e31, Nh32, K33, V31⟩, fun t k => k⟩
    · refine own_preJ (B := T21.setTop (mkF m 83 #[.val (.int p1), .val (.int p2), .val (.int (p1 &&& (1 : Int32))), .val (.int (((p1 &&& (1 : Int32)) + (1 : Int32)) + (((p1.toUInt32 >>> ((1 : Int32) &&& 31).toUInt32).toInt32) &&& (1 : Int32)))), .val (.int (((((p1 &&& (1 : Int32)) + (1 : Int32)) + (((p1.toUInt32 >>> ((1 : Int32) &&& 31).toUInt32).toInt32) &&& (1 : Int32))) + (1 : Int32)) + (((p1.toUInt32 >>> ((2 : Int32) &&& 31).toUInt32).toInt32) &&& (1 : Int32)))), .val (.int (((((((p1 &&& (1 : Int32)) + (1 : Int32)) + (((p1.toUInt32 >>> ((1 : Int32) &&& 31).toUInt32).toInt32) &&& (1 : Int32))) + (1 : Int32)) + (((p1.toUInt32 >>> ((2 : Int32) &&& 31).toUInt32).toInt32) &&& (1 : Int32))) + (1 : Int32)) + (((p1.toUInt32 >>> ((3 : Int32) &&& 31).toUInt32).toInt32) &&& (1 : Int32)))), .val (.ref b4)] [])) (fun t k => XS.icmpYes X21.here hx rfl (pc0 := 74) (pc' := 83) rfl (hb hby d1_74) rfl (flt hc74_29).2.2.2 (by decide) (by decide) k) ?_
      rw [if_neg hc74_29] at hz27
      subst hz27
      exact ⟨_, ⟨_, _, _, rfl, own_more X21 (by decide) (by decide), e21, N21, K21j, j21_0⟩, fun t k => k⟩
  refine own_pre (B := T28.setTop (mkF m 83 #[.val (.int p1), .val (.int p2), .val (.int (p1 &&& (1 : Int32))), .val (.int (((p1 &&& (1 : Int32)) + (1 : Int32)) + (((p1.toUInt32 >>> ((1 : Int32) &&& 31).toUInt32).toInt32) &&& (1 : Int32)))), .val (.int (((((p1 &&& (1 : Int32)) + (1 : Int32)) + (((p1.toUInt32 >>> ((1 : Int32) &&& 31).toUInt32).toInt32) &&& (1 : Int32))) + (1 : Int32)) + (((p1.toUInt32 >>> ((2 : Int32) &&& 31).toUInt32).toInt32) &&& (1 : Int32)))), .val (.int (((((((p1 &&& (1 : Int32)) + (1 : Int32)) + (((p1.toUInt32 >>> ((1 : Int32) &&& 31).toUInt32).toInt32) &&& (1 : Int32))) + (1 : Int32)) + (((p1.toUInt32 >>> ((2 : Int32) &&& 31).toUInt32).toInt32) &&& (1 : Int32))) + (1 : Int32)) + (((p1.toUInt32 >>> ((3 : Int32) &&& 31).toUInt32).toInt32) &&& (1 : Int32)))), .val (.ref b4)] [])) (fun t k => st28 t k) ?_
  refine own_pre (B := T28.setTop (mkF m 85 #[.val (.int p1), .val (.int p2), .val (.int (p1 &&& (1 : Int32))), .val (.int (((p1 &&& (1 : Int32)) + (1 : Int32)) + (((p1.toUInt32 >>> ((1 : Int32) &&& 31).toUInt32).toInt32) &&& (1 : Int32)))), .val (.int (((((p1 &&& (1 : Int32)) + (1 : Int32)) + (((p1.toUInt32 >>> ((1 : Int32) &&& 31).toUInt32).toInt32) &&& (1 : Int32))) + (1 : Int32)) + (((p1.toUInt32 >>> ((2 : Int32) &&& 31).toUInt32).toInt32) &&& (1 : Int32)))), .val (.int (((((((p1 &&& (1 : Int32)) + (1 : Int32)) + (((p1.toUInt32 >>> ((1 : Int32) &&& 31).toUInt32).toInt32) &&& (1 : Int32))) + (1 : Int32)) + (((p1.toUInt32 >>> ((2 : Int32) &&& 31).toUInt32).toInt32) &&& (1 : Int32))) + (1 : Int32)) + (((p1.toUInt32 >>> ((3 : Int32) &&& 31).toUInt32).toInt32) &&& (1 : Int32)))), .val (.ref b4)] [(.ref b4)])) (fun t k => XS.aload X28.here hx rfl (hb hby d1_83) rfl rfl k) ?_
  obtain ⟨fsr34, hrr34, hrunr34, hendedr34, hWr34, hsamer34⟩ := X28.leave (v := some (.ref b4)) (fun h => by rw [Bd.returns] at h; cases h)
  refine ⟨_, _, (retOut X28 hx (i := .areturn) Bd.returns rfl (Or.inr (Or.inr (Or.inr (Or.inr ⟨rfl, rfl, rfl⟩)))) (hb hby d1_85) hrr34), hrunr34, hendedr34, _, _, rfl, ?_, ⟨_, rfl⟩, hWr34, hsamer34.mono (by decide) (by decide)⟩
  show Q1 Z p1 p2 h0 n0 _ T28.heap _
  rw [e28]
  exact ⟨b4, k4, z5, z13, z20, z27, rfl, N28, K28j, g_b4, s_b4, j28_0, own_Rj hz5 (own_Rof (own_R0 rfl) (by decide)), own_Rj hz13 (own_Rof (own_Rs (own_R0 rfl) rfl (by decide)) (by decide)), own_Rj hz20 (own_Rof (own_Rs (own_Rs (own_R0 rfl) rfl (by decide)) rfl (by decide)) (by decide)), own_Rj hz27 (own_Rof (own_Rs (own_Rs (own_Rs (own_R0 rfl) rfl (by decide)) rfl (by decide)) rfl (by decide)) (by decide))⟩
theorem d2_0 : decode prog_47_method_1_code 0 = .ok (.aload_n 0, 1) := by decide +kernel
theorem d2_1 : decode prog_47_method_1_code 1 = .ok (.invokespecial 1, 3) := by decide +kernel
theorem d2_4 : decode prog_47_method_1_code 4 = .ok (.aload_n 0, 1) := by decide +kernel
theorem d2_5 : decode prog_47_method_1_code 5 = .ok (.iconst 0, 1) := by decide +kernel
theorem d2_6 : decode prog_47_method_1_code 6 = .ok (.newarray .int, 2) := by decide +kernel
theorem d2_8 : decode prog_47_method_1_code 8 = .ok (.putfield 7, 3) := by decide +kernel
theorem d2_11 : decode prog_47_method_1_code 11 = .ok (.aload_n 0, 1) := by decide +kernel
theorem d2_12 : decode prog_47_method_1_code 12 = .ok (.iconst 1, 1) := by decide +kernel
theorem d2_13 : decode prog_47_method_1_code 13 = .ok (.newarray .double, 2) := by decide +kernel
theorem d2_15 : decode prog_47_method_1_code 15 = .ok (.putfield 13, 3) := by decide +kernel
theorem d2_18 : decode prog_47_method_1_code 18 = .ok (.aload_n 0, 1) := by decide +kernel
theorem d2_19 : decode prog_47_method_1_code 19 = .ok (.iconst 0, 1) := by decide +kernel
theorem d2_20 : decode prog_47_method_1_code 20 = .ok (.newarray .double, 2) := by decide +kernel
theorem d2_22 : decode prog_47_method_1_code 22 = .ok (.putfield 17, 3) := by decide +kernel
theorem d2_25 : decode prog_47_method_1_code 25 = .ok (.aload_n 0, 1) := by decide +kernel
theorem d2_26 : decode prog_47_method_1_code 26 = .ok (.iconst 1, 1) := by decide +kernel
theorem d2_27 : decode prog_47_method_1_code 27 = .ok (.newarray .double, 2) := by decide +kernel
theorem d2_29 : decode prog_47_method_1_code 29 = .ok (.putfield 20, 3) := by decide +kernel
theorem d2_32 : decode prog_47_method_1_code 32 = .ok (.aload_n 0, 1) := by decide +kernel
theorem d2_33 : decode prog_47_method_1_code 33 = .ok (.aload_n 1, 1) := by decide +kernel
theorem d2_34 : decode prog_47_method_1_code 34 = .ok (.putfield 23, 3) := by decide +kernel
theorem d2_37 : decode prog_47_method_1_code 37 = .ok (.return_, 1) := by decide +kernel
theorem pn_2 : plainName "com/example/nearjoin/nearjoin/join/PrefixCut" = true := by first | (simp [plainName, overriddenIn]; done) | decide +kernel
theorem ef_2 (m : MethodId) (x0 : Addr) (x1 : Addr) : entryFrame m #[(.ref x0), (.ref x1)] 2 = mkF m 0 #[.val (.ref x0), .val (.ref x1)] [] := by first | (simp [entryFrame, mkF, argsToLocals, Value.category]; done) | rfl
def Q2 (Z : State) (a1 : Addr) (a2 : Addr) (w_least_a1 : UInt64) (w_heavyCount_a1 : Int32) (w_lastLevel_a1 : Int32) (w_firstLast_a1 : Int32) (w_last_a1 : Int32) (u_bag_a1 : Value) (u_suffix_a1 : Value) (u_sorted_a1 : Value) (u_heavy_a1 : Value) (u_weights_a1 : Value) (h0 : Heap) (n0 : Nat) (v : Option Value) (h : Heap) (L : List Loc) : Prop := ∃ (b5 b14 b26 b40 : Addr) (k5 k14 k26 k40 : ClassId), v = none ∧ Fr n0 L ∧ Keep h0 h [a1] ∧ Exa Z h a1 "com/example/nearjoin/nearjoin/join/PrefixCut" ∧ Fld Z h a1 "com/example/nearjoin/nearjoin/join/PrefixCut" "least" "D" (.double w_least_a1) ∧ Fld Z h a1 "com/example/nearjoin/nearjoin/join/PrefixCut" "heavyCount" "I" (.int w_heavyCount_a1) ∧ Fld Z h a1 "com/example/nearjoin/nearjoin/join/PrefixCut" "lastLevel" "I" (.int w_lastLevel_a1) ∧ Fld Z h a1 "com/example/nearjoin/nearjoin/join/PrefixCut" "firstLast" "I" (.int w_firstLast_a1) ∧ Fld Z h a1 "com/example/nearjoin/nearjoin/join/PrefixCut" "last" "I" (.int w_last_a1) ∧ Fld Z h a1 "com/example/nearjoin/nearjoin/join/PrefixCut" "bag" "[I" (.ref b5) ∧ Fld Z h a1 "com/example/nearjoin/nearjoin/join/PrefixCut" "suffix" "[D" (.ref b14) ∧ Fld Z h a1 "com/example/nearjoin/nearjoin/join/PrefixCut" "sorted" "[D" (.ref b26) ∧ Fld Z h a1 "com/example/nearjoin/nearjoin/join/PrefixCut" "heavy" "[D" (.ref b40) ∧ Fld Z h a1 "com/example/nearjoin/nearjoin/join/PrefixCut" "weights" "[D" (.ref a2) ∧ n0 ≤ b5 ∧ h0.size ≤ b5 ∧ Arv Z h b5 k5 .int (0 : Int32) [] (.int (0 : Int32)) ∧ n0 ≤ b14 ∧ h0.size ≤ b14 ∧ Arv Z h b14 k14 .double (1 : Int32) [(.double (FP.l2d (0 : Int64)))] (.double (FP.l2d (0 : Int64))) ∧ n0 ≤ b26 ∧ h0.size ≤ b26 ∧ Arv Z h b26 k26 .double (0 : Int32) [] (.double (FP.l2d (0 : Int64))) ∧ n0 ≤ b40 ∧ h0.size ≤ b40 ∧ Arv Z h b40 k40 .double (1 : Int32) [(.double (FP.l2d (0 : Int64)))] (.double (FP.l2d (0 : Int64))) ∧ b5 ≠ b14 ∧ b5 ≠ b26 ∧ b5 ≠ b40 ∧ b14 ≠ b26 ∧ b14 ≠ b40 ∧ b26 ≠ b40
set_option maxRecDepth 65536 in
set_option maxHeartbeats 40000000 in
theorem rm2 (l : Launch) (Z : State) (a0 : Array Value) (hw : ∀ d ∈ tables_1, d.before a0 Z = true) (ws : List Jvm.Cond) (a1 : Addr) (a2 : Addr) (w_least_a1 : UInt64) (w_heavyCount_a1 : Int32) (w_lastLevel_a1 : Int32) (w_firstLast_a1 : Int32) (w_last_a1 : Int32) (u_bag_a1 : Value) (u_suffix_a1 : Value) (u_sorted_a1 : Value) (u_heavy_a1 : Value) (u_weights_a1 : Value) (h0 : Heap) (n0 : Nat) (Z0 : n0 ≤ h0.size) (E_a1 : Exa Z h0 a1 "com/example/nearjoin/nearjoin/join/PrefixCut") (F_least_a1 : Fld Z h0 a1 "com/example/nearjoin/nearjoin/join/PrefixCut" "least" "D" (.double w_least_a1)) (F_heavyCount_a1 : Fld Z h0 a1 "com/example/nearjoin/nearjoin/join/PrefixCut" "heavyCount" "I" (.int w_heavyCount_a1)) (F_lastLevel_a1 : Fld Z h0 a1 "com/example/nearjoin/nearjoin/join/PrefixCut" "lastLevel" "I" (.int w_lastLevel_a1)) (F_firstLast_a1 : Fld Z h0 a1 "com/example/nearjoin/nearjoin/join/PrefixCut" "firstLast" "I" (.int w_firstLast_a1)) (F_last_a1 : Fld Z h0 a1 "com/example/nearjoin/nearjoin/join/PrefixCut" "last" "I" (.int w_last_a1)) (F_bag_a1 : Fld Z h0 a1 "com/example/nearjoin/nearjoin/join/PrefixCut" "bag" "[I" u_bag_a1) (g_a1 : n0 ≤ a1) (F_suffix_a1 : Fld Z h0 a1 "com/example/nearjoin/nearjoin/join/PrefixCut" "suffix" "[D" u_suffix_a1) (F_sorted_a1 : Fld Z h0 a1 "com/example/nearjoin/nearjoin/join/PrefixCut" "sorted" "[D" u_sorted_a1) (F_heavy_a1 : Fld Z h0 a1 "com/example/nearjoin/nearjoin/join/PrefixCut" "heavy" "[D" u_heavy_a1) (F_weights_a1 : Fld Z h0 a1 "com/example/nearjoin/nearjoin/join/PrefixCut" "weights" "[D" u_weights_a1) :
    MetFree l (⟨"com/example/nearjoin/nearjoin/join/PrefixCut", "<init>", "([D)V"⟩ : MethodName) (head1 (Jvm.Cond.code (⟨"com/example/nearjoin/nearjoin/join/PrefixCut", "<init>", "([D)V"⟩ : MethodName) prog_47_method_1_code 2 none :: ws) ({ frames := 1, cells := 4, slots := 2, locals := 12 } : Room)) (fun a U => a = #[(.ref a1), (.ref a2)] ∧ Z.Warmed39 U.vm ∧ U.heap = h0) (fun _ _ _ _ _ => True) (fun _ U o U' => ∃ v L, o = .returned v ∧ Q2 Z a1 a2 w_least_a1 w_heavyCount_a1 w_lastLevel_a1 w_firstLast_a1 w_last_a1 u_bag_a1 u_suffix_a1 u_sorted_a1 u_heavy_a1 u_weights_a1 h0 n0 v U'.heap L ∧ FrameEnd U o U' L ({ frames := 1, cells := 4, slots := 2, locals := 12 } : Room).cells ({ frames := 1, cells := 4, slots := 2, locals := 12 } : Room).slots) := by
  refine MetFree.of_bodySF (plainFor_of_name pn_2) hisR ?_
  intro p e s m args below meth c s₁ Bd hml0 hP hK
  obtain ⟨rfl, hZ, hh⟩ := hP
  have hx := Bd.exec
  have hby := Bd.bytes
  have hml : c.maxLocals = 2 := hml0
  have hown : s.vm.findClass "com/example/nearjoin/nearjoin/join/PrefixCut" = some m.cls := findClass_of_methodNamed Bd.named
  have hnm := (name_of_methodNamed Bd.named Bd.method).1
  have X0 : Stand p l e ({ frames := 1, cells := 4, slots := 2, locals := 12 } : Room) s m #[(.ref a1), (.ref a2)] below meth c s₁ [] 0 0 := Stand.of_body Bd
  have e0 : s₁.heap = h0 := by rw [← hh, Bd.state]; rfl
  have N0 := Fr.nil n0
  apply own_in
  refine own_pre (B := s₁.setTop (mkF m 0 #[.val (.ref a1), .val (.ref a2)] [])) (fun t k => castTop (ef_2 m a1 a2) k) ?_
  refine own_pre (B := s₁.setTop (mkF m 1 #[.val (.ref a1), .val (.ref a2)] [(.ref a1)])) (fun t k => XS.aloadN X0.here hx rfl (hb hby d2_0) rfl rfl k) ?_
  obtain ⟨T3, X3, e3, st3⟩ := initO X0 hx hZ hown (hw _ (ow 14 rfl)) (hw _ (ow 15 rfl)) (hw _ (ow 16 rfl)) e0 (g := (mkF m 1 #[.val (.ref a1), .val (.ref a2)] [(.ref a1)])) rfl (by rw [hml]; rfl) rfl (hb hby d2_1) (by decide) (W := 0) (by show 2 * 0 + _ ≤ _; exact Nat.le_of_eq rfl) (by decide)
  refine own_pre (B := T3.setTop (mkF m 4 #[.val (.ref a1), .val (.ref a2)] [])) (fun t k => st3 t k) ?_
  refine own_pre (B := T3.setTop (mkF m 5 #[.val (.ref a1), .val (.ref a2)] [(.ref a1)])) (fun t k => XS.aloadN X3.here hx rfl (hb hby d2_4) rfl rfl k) ?_
  refine own_pre (B := T3.setTop (mkF m 6 #[.val (.ref a1), .val (.ref a2)] [(.int (0 : Int32)), (.ref a1)])) (fun t k => XS.iconst X3.here hx rfl (hb hby d2_5) k) ?_
  have K4 : Keep h0 h0 [a1] := (Keep.refl h0 [a1])
  obtain ⟨T5, h5, k5, X5, e5, E5, A5, st5⟩ := newP X3 hx hZ (hw _ (ow 6 rfl)) e3 (g := (mkF m 6 #[.val (.ref a1), .val (.ref a2)] [(.int (0 : Int32)), (.ref a1)])) rfl (hb hby d2_6) rfl (by decide) (cap := 0) (by decide) (by decide) (by decide) (by decide)
  obtain ⟨b5, g5⟩ : ∃ z, z = h0.size := ⟨_, rfl⟩
  rw [← g5] at A5 st5
  have g_b5 : n0 ≤ b5 := Nat.le_trans Z0 (Nat.le_of_eq g5.symm)
  have s_b5 : h0.size ≤ b5 := Nat.le_trans K4.1 (Nat.le_of_eq g5.symm)
  have ne6 : a1 ≠ b5 := Nat.ne_of_lt (Nat.lt_of_lt_of_le (Exa.lt E_a1) (Nat.le_of_eq g5.symm))
  have V_b5 : Arv Z h5 b5 k5 .int (0 : Int32) [] (.int (0 : Int32)) := (Arv.new A5 (by decide)).pad (pad_rep [] (.int (0 : Int32)) 0)
  refine own_pre (B := T5.setTop (mkF m 8 #[.val (.ref a1), .val (.ref a2)] [(.ref b5), (.ref a1)])) (fun t k => st5 t k) ?_
  have c7 := (E_a1.ext E5)
  have c8 := (F_bag_a1.ext E5)
  have K9 : Keep h0 h5 [a1] := (Keep.ext K4 E5)
  obtain ⟨T10, h10, X10, e10, W10, st10⟩ := putF X5 hx hZ hown (host := "") (Or.inl (hw _ (ow 17 rfl))) Via.refl e5 c8 c7 (Or.inl (hw _ (ow 18 rfl))) (hw _ (ow 9 rfl)) (ty := (.array .int)) (by decide) rfl rfl (g := (mkF m 8 #[.val (.ref a1), .val (.ref a2)] [(.ref b5), (.ref a1)])) rfl rfl (hb hby d2_8)
  have Fw10 := Fld.same W10 c8
  have N10 := Fr.snoc X10 N0 g_a1
  obtain ⟨Lh11, Xh11, Nh11⟩ := own_hide X10 N10
  refine own_pre (B := T10.setTop (mkF m 11 #[.val (.ref a1), .val (.ref a2)] [])) (fun t k => st10 t k) ?_
  refine own_pre (B := T10.setTop (mkF m 12 #[.val (.ref a1), .val (.ref a2)] [(.ref a1)])) (fun t k => XS.aloadN Xh11.here hx rfl (hb hby d2_11) rfl rfl k) ?_
  refine own_pre (B := T10.setTop (mkF m 13 #[.val (.ref a1), .val (.ref a2)] [(.int (1 : Int32)), (.ref a1)])) (fun t k => XS.iconst Xh11.here hx rfl (hb hby d2_12) k) ?_
  have K12 : Keep h0 h10 [a1] := (Keep.wr K9 W10 (Or.inl (List.mem_of_getElem? (i := 0) rfl)))
  have sz13 : n0 ≤ h10.size := (Nat.le_trans (Nat.le_trans Z0 E5.1) (Keep.of_wr W10).1)
  obtain ⟨T14, h14, k14, X14, e14, E14, A14, st14⟩ := newP Xh11 hx hZ (hw _ (ow 0 rfl)) e10 (g := (mkF m 13 #[.val (.ref a1), .val (.ref a2)] [(.int (1 : Int32)), (.ref a1)])) rfl (hb hby d2_13) rfl (by decide) (cap := 1) (by decide) (by decide) (by decide) (by decide)
  obtain ⟨b14, g14⟩ : ∃ z, z = h10.size := ⟨_, rfl⟩
  rw [← g14] at A14 st14
  have g_b14 : n0 ≤ b14 := Nat.le_trans sz13 (Nat.le_of_eq g14.symm)
  have s_b14 : h0.size ≤ b14 := Nat.le_trans K12.1 (Nat.le_of_eq g14.symm)
  have c15 := (Exa.wr W10 c7)
  have ne16 : a1 ≠ b14 := Nat.ne_of_lt (Nat.lt_of_lt_of_le (Exa.lt c15) (Nat.le_of_eq g14.symm))
  have c17 := (Arv.other V_b5 W10 (Ne.symm ne6))
  have ne18 : b5 ≠ b14 := Nat.ne_of_lt (Nat.lt_of_lt_of_le (Arv.lt c17) (Nat.le_of_eq g14.symm))
  have V_b14 : Arv Z h14 b14 k14 .double (1 : Int32) [(.double (FP.l2d (0 : Int64)))] (.double (FP.l2d (0 : Int64))) := (Arv.newD A14 (by decide)).pad (pad_rep [] (.double (FP.l2d (0 : Int64))) 1)
  refine own_pre (B := T14.setTop (mkF m 15 #[.val (.ref a1), .val (.ref a2)] [(.ref b14), (.ref a1)])) (fun t k => st14 t k) ?_
  have c19 := (c15.ext E14)
  have c20 := ((Fld.other W10 (F_suffix_a1.ext E5) (Or.inr (slot_ne (Or.inl (hw _ (ow 20 rfl))) (Or.inl (hw _ (ow 18 rfl))) (by decide) (t := (.array .double)) (t' := (.array .int)) (by decide) (by decide)))).ext E14)
  have K21 : Keep h0 h14 [a1] := (Keep.ext K12 E14)
  obtain ⟨T22, h22, X22, e22, W22, st22⟩ := putF X14 hx hZ hown (host := "") (Or.inl (hw _ (ow 19 rfl))) Via.refl e14 c20 c19 (Or.inl (hw _ (ow 20 rfl))) (hw _ (ow 9 rfl)) (ty := (.array .double)) (by decide) rfl rfl (g := (mkF m 15 #[.val (.ref a1), .val (.ref a2)] [(.ref b14), (.ref a1)])) rfl rfl (hb hby d2_15)
  have Fw22 := Fld.same W22 c20
  have N22 := Fr.snoc X22 Nh11 g_a1
  obtain ⟨Lh23, Xh23, Nh23⟩ := own_hide X22 N22
  refine own_pre (B := T22.setTop (mkF m 18 #[.val (.ref a1), .val (.ref a2)] [])) (fun t k => st22 t k) ?_
  refine own_pre (B := T22.setTop (mkF m 19 #[.val (.ref a1), .val (.ref a2)] [(.ref a1)])) (fun t k => XS.aloadN Xh23.here hx rfl (hb hby d2_18) rfl rfl k) ?_
  refine own_pre (B := T22.setTop (mkF m 20 #[.val (.ref a1), .val (.ref a2)] [(.int (0 : Int32)), (.ref a1)])) (fun t k => XS.iconst Xh23.here hx rfl (hb hby d2_19) k) ?_
  have K24 : Keep h0 h22 [a1] := (Keep.wr K21 W22 (Or.inl (List.mem_of_getElem? (i := 0) rfl)))
  have sz25 : n0 ≤ h22.size := (Nat.le_trans (Nat.le_trans sz13 E14.1) (Keep.of_wr W22).1)
  obtain ⟨T26, h26, k26, X26, e26, E26, A26, st26⟩ := newP Xh23 hx hZ (hw _ (ow 0 rfl)) e22 (g := (mkF m 20 #[.val (.ref a1), .val (.ref a2)] [(.int (0 : Int32)), (.ref a1)])) rfl (hb hby d2_20) rfl (by decide) (cap := 0) (by decide) (by decide) (by decide) (by decide)
  obtain ⟨b26, g26⟩ : ∃ z, z = h22.size := ⟨_, rfl⟩
  rw [← g26] at A26 st26
  have g_b26 : n0 ≤ b26 := Nat.le_trans sz25 (Nat.le_of_eq g26.symm)
  have s_b26 : h0.size ≤ b26 := Nat.le_trans K24.1 (Nat.le_of_eq g26.symm)
  have c27 := (Exa.wr W22 c19)
  have ne28 : a1 ≠ b26 := Nat.ne_of_lt (Nat.lt_of_lt_of_le (Exa.lt c27) (Nat.le_of_eq g26.symm))
  have c29 := (Arv.other (Arv.ext c17 E14) W22 (Ne.symm ne6))
  have ne30 : b5 ≠ b26 := Nat.ne_of_lt (Nat.lt_of_lt_of_le (Arv.lt c29) (Nat.le_of_eq g26.symm))
  have c31 := (Arv.other V_b14 W22 (Ne.symm ne16))
  have ne32 : b14 ≠ b26 := Nat.ne_of_lt (Nat.lt_of_lt_of_le (Arv.lt c31) (Nat.le_of_eq g26.symm))
  have V_b26 : Arv Z h26 b26 k26 .double (0 : Int32) [] (.double (FP.l2d (0 : Int64))) := (Arv.newD A26 (by decide)).pad (pad_rep [] (.double (FP.l2d (0 : Int64))) 0)
  refine own_pre (B := T26.setTop (mkF m 22 #[.val (.ref a1), .val (.ref a2)] [(.ref b26), (.ref a1)])) (fun t k => st26 t k) ?_
  have c33 := (c27.ext E26)
  have c34 := ((Fld.other W22 ((Fld.other W10 (F_sorted_a1.ext E5) (Or.inr (slot_ne (Or.inl (hw _ (ow 22 rfl))) (Or.inl (hw _ (ow 18 rfl))) (by decide) (t := (.array .double)) (t' := (.array .int)) (by decide) (by decide)))).ext E14) (Or.inr (slot_ne (Or.inl (hw _ (ow 22 rfl))) (Or.inl (hw _ (ow 20 rfl))) (by decide) (t := (.array .double)) (t' := (.array .double)) (by decide) (by decide)))).ext E26)
  have K35 : Keep h0 h26 [a1] := (Keep.ext K24 E26)
  obtain ⟨T36, h36, X36, e36, W36, st36⟩ := putF X26 hx hZ hown (host := "") (Or.inl (hw _ (ow 21 rfl))) Via.refl e26 c34 c33 (Or.inl (hw _ (ow 22 rfl))) (hw _ (ow 9 rfl)) (ty := (.array .double)) (by decide) rfl rfl (g := (mkF m 22 #[.val (.ref a1), .val (.ref a2)] [(.ref b26), (.ref a1)])) rfl rfl (hb hby d2_22)
  have Fw36 := Fld.same W36 c34
  have N36 := Fr.snoc X36 Nh23 g_a1
  obtain ⟨Lh37, Xh37, Nh37⟩ := own_hide X36 N36
  refine own_pre (B := T36.setTop (mkF m 25 #[.val (.ref a1), .val (.ref a2)] [])) (fun t k => st36 t k) ?_
  refine own_pre (B := T36.setTop (mkF m 26 #[.val (.ref a1), .val (.ref a2)] [(.ref a1)])) (fun t k => XS.aloadN Xh37.here hx rfl (hb hby d2_25) rfl rfl k) ?_
  refine own_pre (B := T36.setTop (mkF m 27 #[.val (.ref a1), .val (.ref a2)] [(.int (1 : Int32)), (.ref a1)])) (fun t k => XS.iconst Xh37.here hx rfl (hb hby d2_26) k) ?_
  have K38 : Keep h0 h36 [a1] := (Keep.wr K35 W36 (Or.inl (List.mem_of_getElem? (i := 0) rfl)))
  have sz39 : n0 ≤ h36.size := (Nat.le_trans (Nat.le_trans sz25 E26.1) (Keep.of_wr W36).1)
  obtain ⟨T40, h40, k40, X40, e40, E40, A40, st40⟩ := newP Xh37 hx hZ (hw _ (ow 0 rfl)) e36 (g := (mkF m 27 #[.val (.ref a1), .val (.ref a2)] [(.int (1 : Int32)), (.ref a1)])) rfl (hb hby d2_27) rfl (by decide) (cap := 1) (by decide) (by decide) (by decide) (by decide)
  obtain ⟨b40, g40⟩ : ∃ z, z = h36.size := ⟨_, rfl⟩
  rw [← g40] at A40 st40
  have g_b40 : n0 ≤ b40 := Nat.le_trans sz39 (Nat.le_of_eq g40.symm)
  have s_b40 : h0.size ≤ b40 := Nat.le_trans K38.1 (Nat.le_of_eq g40.symm)
  have c41 := (Exa.wr W36 c33)
  have ne42 : a1 ≠ b40 := Nat.ne_of_lt (Nat.lt_of_lt_of_le (Exa.lt c41) (Nat.le_of_eq g40.symm))
  have c43 := (Arv.other (Arv.ext c29 E26) W36 (Ne.symm ne6))
  have ne44 : b5 ≠ b40 := Nat.ne_of_lt (Nat.lt_of_lt_of_le (Arv.lt c43) (Nat.le_of_eq g40.symm))
  have c45 := (Arv.other (Arv.ext c31 E26) W36 (Ne.symm ne16))
  have ne46 : b14 ≠ b40 := Nat.ne_of_lt (Nat.lt_of_lt_of_le (Arv.lt c45) (Nat.le_of_eq g40.symm))
  have c47 := (Arv.other V_b26 W36 (Ne.symm ne28))
  have ne48 : b26 ≠ b40 := Nat.ne_of_lt (Nat.lt_of_lt_of_le (Arv.lt c47) (Nat.le_of_eq g40.symm))
  have V_b40 : Arv Z h40 b40 k40 .double (1 : Int32) [(.double (FP.l2d (0 : Int64)))] (.double (FP.l2d (0 : Int64))) := (Arv.newD A40 (by decide)).pad (pad_rep [] (.double (FP.l2d (0 : Int64))) 1)
  refine own_pre (B := T40.setTop (mkF m 29 #[.val (.ref a1), .val (.ref a2)] [(.ref b40), (.ref a1)])) (fun t k => st40 t k) ?_
  have c49 := (c41.ext E40)
  have c50 := ((Fld.other W36 ((Fld.other W22 ((Fld.other W10 (F_heavy_a1.ext E5) (Or.inr (slot_ne (Or.inl (hw _ (ow 24 rfl))) (Or.inl (hw _ (ow 18 rfl))) (by decide) (t := (.array .double)) (t' := (.array .int)) (by decide) (by decide)))).ext E14) (Or.inr (slot_ne (Or.inl (hw _ (ow 24 rfl))) (Or.inl (hw _ (ow 20 rfl))) (by decide) (t := (.array .double)) (t' := (.array .double)) (by decide) (by decide)))).ext E26) (Or.inr (slot_ne (Or.inl (hw _ (ow 24 rfl))) (Or.inl (hw _ (ow 22 rfl))) (by decide) (t := (.array .double)) (t' := (.array .double)) (by decide) (by decide)))).ext E40)
  have K51 : Keep h0 h40 [a1] := (Keep.ext K38 E40)
  obtain ⟨T52, h52, X52, e52, W52, st52⟩ := putF X40 hx hZ hown (host := "") (Or.inl (hw _ (ow 23 rfl))) Via.refl e40 c50 c49 (Or.inl (hw _ (ow 24 rfl))) (hw _ (ow 9 rfl)) (ty := (.array .double)) (by decide) rfl rfl (g := (mkF m 29 #[.val (.ref a1), .val (.ref a2)] [(.ref b40), (.ref a1)])) rfl rfl (hb hby d2_29)
  have Fw52 := Fld.same W52 c50
  have N52 := Fr.snoc X52 Nh37 g_a1
  obtain ⟨Lh53, Xh53, Nh53⟩ := own_hide X52 N52
  refine own_pre (B := T52.setTop (mkF m 32 #[.val (.ref a1), .val (.ref a2)] [])) (fun t k => st52 t k) ?_
  refine own_pre (B := T52.setTop (mkF m 33 #[.val (.ref a1), .val (.ref a2)] [(.ref a1)])) (fun t k => XS.aloadN Xh53.here hx rfl (hb hby d2_32) rfl rfl k) ?_
  refine own_pre (B := T52.setTop (mkF m 34 #[.val (.ref a1), .val (.ref a2)] [(.ref a2), (.ref a1)])) (fun t k => XS.aloadN Xh53.here hx rfl (hb hby d2_33) rfl rfl k) ?_
  have c54 := (Exa.wr W52 c49)
  have c55 := (Fld.other W52 ((Fld.other W36 ((Fld.other W22 ((Fld.other W10 (F_weights_a1.ext E5) (Or.inr (slot_ne (Or.inr (hw _ (ow 26 rfl))) (Or.inl (hw _ (ow 18 rfl))) (by decide) (t := (.array .double)) (t' := (.array .int)) (by decide) (by decide)))).ext E14) (Or.inr (slot_ne (Or.inr (hw _ (ow 26 rfl))) (Or.inl (hw _ (ow 20 rfl))) (by decide) (t := (.array .double)) (t' := (.array .double)) (by decide) (by decide)))).ext E26) (Or.inr (slot_ne (Or.inr (hw _ (ow 26 rfl))) (Or.inl (hw _ (ow 22 rfl))) (by decide) (t := (.array .double)) (t' := (.array .double)) (by decide) (by decide)))).ext E40) (Or.inr (slot_ne (Or.inr (hw _ (ow 26 rfl))) (Or.inl (hw _ (ow 24 rfl))) (by decide) (t := (.array .double)) (t' := (.array .double)) (by decide) (by decide))))
  have K56 : Keep h0 h52 [a1] := (Keep.wr K51 W52 (Or.inl (List.mem_of_getElem? (i := 0) rfl)))
  obtain ⟨T57, h57, X57, e57, W57, st57⟩ := putF Xh53 hx hZ hown (host := "") (Or.inl (hw _ (ow 25 rfl))) Via.refl e52 c55 c54 (Or.inr ⟨(hw _ (ow 26 rfl)), rfl, hnm⟩) (hw _ (ow 9 rfl)) (ty := (.array .double)) (by decide) rfl rfl (g := (mkF m 34 #[.val (.ref a1), .val (.ref a2)] [(.ref a2), (.ref a1)])) rfl rfl (hb hby d2_34)
  have Fw57 := Fld.same W57 c55
  have N57 := Fr.snoc X57 Nh53 g_a1
  obtain ⟨Lh58, Xh58, Nh58⟩ := own_hide X57 N57
  refine own_pre (B := T57.setTop (mkF m 37 #[.val (.ref a1), .val (.ref a2)] [])) (fun t k => st57 t k) ?_
  have K59 : Keep h0 h57 [a1] := (Keep.wr K56 W57 (Or.inl (List.mem_of_getElem? (i := 0) rfl)))
  have c60 := (Exa.wr W57 c54)
  have c61 := (Fld.other W57 (Fld.other W52 ((Fld.other W36 ((Fld.other W22 ((Fld.other W10 (F_least_a1.ext E5) (Or.inr (slot_ne (Or.inl (hw _ (ow 33 rfl))) (Or.inl (hw _ (ow 18 rfl))) (by decide) (t := .double) (t' := (.array .int)) (by decide) (by decide)))).ext E14) (Or.inr (slot_ne (Or.inl (hw _ (ow 33 rfl))) (Or.inl (hw _ (ow 20 rfl))) (by decide) (t := .double) (t' := (.array .double)) (by decide) (by decide)))).ext E26) (Or.inr (slot_ne (Or.inl (hw _ (ow 33 rfl))) (Or.inl (hw _ (ow 22 rfl))) (by decide) (t := .double) (t' := (.array .double)) (by decide) (by decide)))).ext E40) (Or.inr (slot_ne (Or.inl (hw _ (ow 33 rfl))) (Or.inl (hw _ (ow 24 rfl))) (by decide) (t := .double) (t' := (.array .double)) (by decide) (by decide)))) (Or.inr (slot_ne (Or.inl (hw _ (ow 33 rfl))) (Or.inr (hw _ (ow 26 rfl))) (by decide) (t := .double) (t' := (.array .double)) (by decide) (by decide))))
  have c62 := (Fld.other W57 (Fld.other W52 ((Fld.other W36 ((Fld.other W22 ((Fld.other W10 (F_heavyCount_a1.ext E5) (Or.inr (slot_ne (Or.inl (hw _ (ow 35 rfl))) (Or.inl (hw _ (ow 18 rfl))) (by decide) (t := .int) (t' := (.array .int)) (by decide) (by decide)))).ext E14) (Or.inr (slot_ne (Or.inl (hw _ (ow 35 rfl))) (Or.inl (hw _ (ow 20 rfl))) (by decide) (t := .int) (t' := (.array .double)) (by decide) (by decide)))).ext E26) (Or.inr (slot_ne (Or.inl (hw _ (ow 35 rfl))) (Or.inl (hw _ (ow 22 rfl))) (by decide) (t := .int) (t' := (.array .double)) (by decide) (by decide)))).ext E40) (Or.inr (slot_ne (Or.inl (hw _ (ow 35 rfl))) (Or.inl (hw _ (ow 24 rfl))) (by decide) (t := .int) (t' := (.array .double)) (by decide) (by decide)))) (Or.inr (slot_ne (Or.inl (hw _ (ow 35 rfl))) (Or.inr (hw _ (ow 26 rfl))) (by decide) (t := .int) (t' := (.array .double)) (by decide) (by decide))))
  have c63 := (Fld.other W57 (Fld.other W52 ((Fld.other W36 ((Fld.other W22 ((Fld.other W10 (F_lastLevel_a1.ext E5) (Or.inr (slot_ne (Or.inl (hw _ (ow 37 rfl))) (Or.inl (hw _ (ow 18 rfl))) (by decide) (t := .int) (t' := (.array .int)) (by decide) (by decide)))).ext E14) (Or.inr (slot_ne (Or.inl (hw _ (ow 37 rfl))) (Or.inl (hw _ (ow 20 rfl))) (by decide) (t := .int) (t' := (.array .double)) (by decide) (by decide)))).ext E26) (Or.inr (slot_ne (Or.inl (hw _ (ow 37 rfl))) (Or.inl (hw _ (ow 22 rfl))) (by decide) (t := .int) (t' := (.array .double)) (by decide) (by decide)))).ext E40) (Or.inr (slot_ne (Or.inl (hw _ (ow 37 rfl))) (Or.inl (hw _ (ow 24 rfl))) (by decide) (t := .int) (t' := (.array .double)) (by decide) (by decide)))) (Or.inr (slot_ne (Or.inl (hw _ (ow 37 rfl))) (Or.inr (hw _ (ow 26 rfl))) (by decide) (t := .int) (t' := (.array .double)) (by decide) (by decide))))
  have c64 := (Fld.other W57 (Fld.other W52 ((Fld.other W36 ((Fld.other W22 ((Fld.other W10 (F_firstLast_a1.ext E5) (Or.inr (slot_ne (Or.inl (hw _ (ow 39 rfl))) (Or.inl (hw _ (ow 18 rfl))) (by decide) (t := .int) (t' := (.array .int)) (by decide) (by decide)))).ext E14) (Or.inr (slot_ne (Or.inl (hw _ (ow 39 rfl))) (Or.inl (hw _ (ow 20 rfl))) (by decide) (t := .int) (t' := (.array .double)) (by decide) (by decide)))).ext E26) (Or.inr (slot_ne (Or.inl (hw _ (ow 39 rfl))) (Or.inl (hw _ (ow 22 rfl))) (by decide) (t := .int) (t' := (.array .double)) (by decide) (by decide)))).ext E40) (Or.inr (slot_ne (Or.inl (hw _ (ow 39 rfl))) (Or.inl (hw _ (ow 24 rfl))) (by decide) (t := .int) (t' := (.array .double)) (by decide) (by decide)))) (Or.inr (slot_ne (Or.inl (hw _ (ow 39 rfl))) (Or.inr (hw _ (ow 26 rfl))) (by decide) (t := .int) (t' := (.array .double)) (by decide) (by decide))))
  have c65 := (Fld.other W57 (Fld.other W52 ((Fld.other W36 ((Fld.other W22 ((Fld.other W10 (F_last_a1.ext E5) (Or.inr (slot_ne (Or.inl (hw _ (ow 41 rfl))) (Or.inl (hw _ (ow 18 rfl))) (by decide) (t := .int) (t' := (.array .int)) (by decide) (by decide)))).ext E14) (Or.inr (slot_ne (Or.inl (hw _ (ow 41 rfl))) (Or.inl (hw _ (ow 20 rfl))) (by decide) (t := .int) (t' := (.array .double)) (by decide) (by decide)))).ext E26) (Or.inr (slot_ne (Or.inl (hw _ (ow 41 rfl))) (Or.inl (hw _ (ow 22 rfl))) (by decide) (t := .int) (t' := (.array .double)) (by decide) (by decide)))).ext E40) (Or.inr (slot_ne (Or.inl (hw _ (ow 41 rfl))) (Or.inl (hw _ (ow 24 rfl))) (by decide) (t := .int) (t' := (.array .double)) (by decide) (by decide)))) (Or.inr (slot_ne (Or.inl (hw _ (ow 41 rfl))) (Or.inr (hw _ (ow 26 rfl))) (by decide) (t := .int) (t' := (.array .double)) (by decide) (by decide))))
  have c66 := (Fld.other W57 (Fld.other W52 ((Fld.other W36 ((Fld.other W22 (Fw10.ext E14) (Or.inr (slot_ne (Or.inl (hw _ (ow 18 rfl))) (Or.inl (hw _ (ow 20 rfl))) (by decide) (t := (.array .int)) (t' := (.array .double)) (by decide) (by decide)))).ext E26) (Or.inr (slot_ne (Or.inl (hw _ (ow 18 rfl))) (Or.inl (hw _ (ow 22 rfl))) (by decide) (t := (.array .int)) (t' := (.array .double)) (by decide) (by decide)))).ext E40) (Or.inr (slot_ne (Or.inl (hw _ (ow 18 rfl))) (Or.inl (hw _ (ow 24 rfl))) (by decide) (t := (.array .int)) (t' := (.array .double)) (by decide) (by decide)))) (Or.inr (slot_ne (Or.inl (hw _ (ow 18 rfl))) (Or.inr (hw _ (ow 26 rfl))) (by decide) (t := (.array .int)) (t' := (.array .double)) (by decide) (by decide))))
  have c67 := (Fld.other W57 (Fld.other W52 ((Fld.other W36 (Fw22.ext E26) (Or.inr (slot_ne (Or.inl (hw _ (ow 20 rfl))) (Or.inl (hw _ (ow 22 rfl))) (by decide) (t := (.array .double)) (t' := (.array .double)) (by decide) (by decide)))).ext E40) (Or.inr (slot_ne (Or.inl (hw _ (ow 20 rfl))) (Or.inl (hw _ (ow 24 rfl))) (by decide) (t := (.array .double)) (t' := (.array .double)) (by decide) (by decide)))) (Or.inr (slot_ne (Or.inl (hw _ (ow 20 rfl))) (Or.inr (hw _ (ow 26 rfl))) (by decide) (t := (.array .double)) (t' := (.array .double)) (by decide) (by decide))))
  have c68 := (Fld.other W57 (Fld.other W52 (Fw36.ext E40) (Or.inr (slot_ne (Or.inl (hw _ (ow 22 rfl))) (Or.inl (hw _ (ow 24 rfl))) (by decide) (t := (.array .double)) (t' := (.array .double)) (by decide) (by decide)))) (Or.inr (slot_ne (Or.inl (hw _ (ow 22 rfl))) (Or.inr (hw _ (ow 26 rfl))) (by decide) (t := (.array .double)) (t' := (.array .double)) (by decide) (by decide))))
  have c69 := (Fld.other W57 Fw52 (Or.inr (slot_ne (Or.inl (hw _ (ow 24 rfl))) (Or.inr (hw _ (ow 26 rfl))) (by decide) (t := (.array .double)) (t' := (.array .double)) (by decide) (by decide))))
  have c70 := (Arv.other (Arv.other (Arv.ext c43 E40) W52 (Ne.symm ne6)) W57 (Ne.symm ne6))
  have c71 := (Arv.other (Arv.other (Arv.ext c45 E40) W52 (Ne.symm ne16)) W57 (Ne.symm ne16))
  have c72 := (Arv.other (Arv.other (Arv.ext c47 E40) W52 (Ne.symm ne28)) W57 (Ne.symm ne28))
  have c73 := (Arv.other (Arv.other V_b40 W52 (Ne.symm ne42)) W57 (Ne.symm ne42))
  obtain ⟨fsr74, hrr74, hrunr74, hendedr74, hWr74, hsamer74⟩ := Xh58.leave (v := none) (fun _ => rfl)
  refine ⟨_, _, (Xh58.returnOut hx Bd.returns (hb hby d2_37) hrr74), hrunr74, hendedr74, _, _, rfl, ?_, ⟨_, rfl⟩, hWr74, hsamer74.mono (by decide) (by decide)⟩
  show Q2 Z a1 a2 w_least_a1 w_heavyCount_a1 w_lastLevel_a1 w_firstLast_a1 w_last_a1 u_bag_a1 u_suffix_a1 u_sorted_a1 u_heavy_a1 u_weights_a1 h0 n0 _ T57.heap _
  rw [e57]
  exact ⟨b5, b14, b26, b40, k5, k14, k26, k40, rfl, Nh58, K59, c60, c61, c62, c63, c64, c65, c66, c67, c68, c69, Fw57, g_b5, s_b5, c70, g_b14, s_b14, c71, g_b26, s_b26, c72, g_b40, s_b40, c73, ne18, ne30, ne44, ne32, ne46, ne48⟩
theorem d6_0 : decode jdk_29_method_65_code 0 = .ok (.iload_n 0, 1) := by decide +kernel
theorem d6_1 : decode jdk_29_method_65_code 1 = .ok (.iload_n 1, 1) := by decide +kernel
theorem d6_2 : decode jdk_29_method_65_code 2 = .ok (.if_icmp .lt 7, 3) := by decide +kernel
theorem d6_5 : decode jdk_29_method_65_code 5 = .ok (.iload_n 0, 1) := by decide +kernel
theorem d6_6 : decode jdk_29_method_65_code 6 = .ok (.goto 4, 3) := by decide +kernel
theorem d6_9 : decode jdk_29_method_65_code 9 = .ok (.iload_n 1, 1) := by decide +kernel
theorem d6_10 : decode jdk_29_method_65_code 10 = .ok (.ireturn, 1) := by decide +kernel
theorem ef_6 (m : MethodId) (x0 : Int32) (x1 : Int32) : entryFrame m #[(.int x0), (.int x1)] 2 = mkF m 0 #[.val (.int x0), .val (.int x1)] [] := by first | (simp [entryFrame, mkF, argsToLocals, Value.category]; done) | rfl
def own_f6 (p1 : Int32) (p2 : Int32) : Int32 := (if p1 < p2 then p2 else p1)
def Q6 (Z : State) (p1 : Int32) (p2 : Int32) (h0 : Heap) (n0 : Nat) (v : Option Value) (h : Heap) (L : List Loc) : Prop := v = some (.int (own_f6 p1 p2)) ∧ Fr n0 L ∧ h = h0
set_option maxRecDepth 65536 in
set_option maxHeartbeats 40000000 in
theorem rm6 (l : Launch) (Z : State) (a0 : Array Value) (hw : ∀ d ∈ tables_1, d.before a0 Z = true) (ws : List Jvm.Cond) (p1 : Int32) (p2 : Int32) (h0 : Heap) (n0 : Nat) (Z0 : n0 ≤ h0.size) :
    MetFree l (⟨"java/lang/Math", "max", "(II)I"⟩ : MethodName) (head1 (Jvm.Cond.code (⟨"java/lang/Math", "max", "(II)I"⟩ : MethodName) jdk_29_method_65_code 2 (some .int) :: ws) ({ frames := 0, cells := 0, slots := 0, locals := 0 } : Room)) (fun a U => a = #[(.int p1), (.int p2)] ∧ Z.Warmed39 U.vm ∧ U.heap = h0) (fun _ _ _ _ _ => True) (fun _ U o U' => ∃ v L, o = .returned v ∧ Q6 Z p1 p2 h0 n0 v U'.heap L ∧ FrameEnd U o U' L ({ frames := 0, cells := 0, slots := 0, locals := 0 } : Room).cells ({ frames := 0, cells := 0, slots := 0, locals := 0 } : Room).slots) := by
  refine MetFree.of_bodySF (Jvm.Free.JP.mathPlain rfl (by decide +kernel)) hisR ?_
  intro p e s m args below meth c s₁ Bd hml0 hP hK
  obtain ⟨rfl, hZ, hh⟩ := hP
  have hx := Bd.exec
  have hby := Bd.bytes
  have hml : c.maxLocals = 2 := hml0
  have hown : s.vm.findClass "java/lang/Math" = some m.cls := findClass_of_methodNamed Bd.named
  have hnm := (name_of_methodNamed Bd.named Bd.method).1
  have X0 : Stand p l e ({ frames := 0, cells := 0, slots := 0, locals := 0 } : Room) s m #[(.int p1), (.int p2)] below meth c s₁ [] 0 0 := Stand.of_body Bd
  have e0 : s₁.heap = h0 := by rw [← hh, Bd.state]; rfl
  have N0 := Fr.nil n0
  apply own_in
  refine own_pre (B := s₁.setTop (mkF m 0 #[.val (.int p1), .val (.int p2)] [])) (fun t k => castTop (ef_6 m p1 p2) k) ?_
  refine own_pre (B := s₁.setTop (mkF m 1 #[.val (.int p1), .val (.int p2)] [(.int p1)])) (fun t k => XS.iloadN X0.here hx rfl (hb hby d6_0) rfl k) ?_
  refine own_pre (B := s₁.setTop (mkF m 2 #[.val (.int p1), .val (.int p2)] [(.int p2), (.int p1)])) (fun t k => XS.iloadN X0.here hx rfl (hb hby d6_1) rfl k) ?_
  by_cases hc2_3 : p1 < p2
  · refine own_pre (B := s₁.setTop (mkF m 9 #[.val (.int p1), .val (.int p2)] [])) (fun t k => XS.icmpYes X0.here hx rfl (pc0 := 2) (pc' := 9) rfl (hb hby d6_2) rfl (tlt hc2_3).1 (by decide) (by decide) k) ?_
    refine own_pre (B := s₁.setTop (mkF m 10 #[.val (.int p1), .val (.int p2)] [(.int p2)])) (fun t k => XS.iloadN X0.here hx rfl (hb hby d6_9) rfl k) ?_
    obtain ⟨fsr4, hrr4, hrunr4, hendedr4, hWr4, hsamer4⟩ := X0.leave (v := some (.int p2)) (fun h => by rw [Bd.returns] at h; cases h)
    refine ⟨_, _, (retI X0 hx Bd.returns (hb hby d6_10) hrr4), hrunr4, hendedr4, _, _, rfl, ?_, ⟨_, rfl⟩, hWr4, hsamer4.mono (by decide) (by decide)⟩
    show Q6 Z p1 p2 h0 n0 _ s₁.heap _
    rw [e0]
    exact ⟨(by unfold own_f6; rw [if_pos hc2_3]), N0, rfl⟩
  · refine own_pre (B := s₁.setTop (mkF m 5 #[.val (.int p1), .val (.int p2)] [])) (fun t k => XS.icmpNo X0.here hx rfl (hb hby d6_2) rfl (flt hc2_3).1 k) ?_
    refine own_pre (B := s₁.setTop (mkF m 6 #[.val (.int p1), .val (.int p2)] [(.int p1)])) (fun t k => XS.iloadN X0.here hx rfl (hb hby d6_5) rfl k) ?_
    refine own_pre (B := s₁.setTop (mkF m 10 #[.val (.int p1), .val (.int p2)] [(.int p1)])) (fun t k => XS.goto X0.here hx rfl (pc0 := 6) (pc' := 10) rfl (hb hby d6_6) (by decide) (by decide) k) ?_
    obtain ⟨fsr5, hrr5, hrunr5, hendedr5, hWr5, hsamer5⟩ := X0.leave (v := some (.int p1)) (fun h => by rw [Bd.returns] at h; cases h)
    refine ⟨_, _, (retI X0 hx Bd.returns (hb hby d6_10) hrr5), hrunr5, hendedr5, _, _, rfl, ?_, ⟨_, rfl⟩, hWr5, hsamer5.mono (by decide) (by decide)⟩
    show Q6 Z p1 p2 h0 n0 _ s₁.heap _
    rw [e0]
    exact ⟨(by unfold own_f6; rw [if_neg hc2_3]), N0, rfl⟩
theorem own_mx (a b : Int32) : a.toInt ≤ (own_f6 a b).toInt ∧ b.toInt ≤ (own_f6 a b).toInt ∧ ((own_f6 a b).toInt = a.toInt ∨ (own_f6 a b).toInt = b.toInt) := by
  unfold own_f6; split <;> rename_i h <;> rw [Int32.lt_iff_toInt_lt] at h <;> omega
def own_fN (nn NN : Int32) : Int32 := if nn < NN then NN else own_f6 ((2 : Int32) * NN) (nn + (1 : Int32))
theorem own_M {nn NN : Int32} (hn : own_n nn) (hN : own_N NN) (h : ¬ nn < NN) : ¬ own_f6 ((2 : Int32) * NN) (nn + (1 : Int32)) < 0 ∧ (own_f6 ((2 : Int32) * NN) (nn + (1 : Int32))).toNatClampNeg ≤ 8 ∧ nn < own_f6 ((2 : Int32) * NN) (nn + (1 : Int32)) := by
  have c := own_c
  obtain ⟨n0, n4⟩ := hn
  obtain ⟨N1, N5⟩ := hN
  have q := own_mx ((2 : Int32) * NN) (nn + (1 : Int32))
  have a := c_iadd nn 1
  have r := rng32 (nn + 1)
  have e : ((2 : Int32) * NN).toInt = 2 * NN.toInt := by
    have r0 := rng32 NN
    simp only [Int32.lt_iff_toInt_lt] at *
    rw [Int32.toInt_mul, show (2 : Int32).toInt = 2 by decide]; exact Int.bmod_eq_of_le (by omega) (by omega)
  simp only [Int32.lt_iff_toInt_lt, Int32.toNatClampNeg] at *
  refine ⟨?_, ?_, ?_⟩ <;> omega
theorem own_N1 {nn : Int32} (hn : own_n nn) : own_N (own_fN nn (1 : Int32)) := by
  rcases own_five hn with rfl | rfl | rfl | rfl | rfl <;> (constructor <;> decide)
theorem pd_0 : parseMethodDescriptor "(II)I" = some ⟨[.int, .int], some .int⟩ := by decide +kernel
theorem d4_0 : decode prog_47_method_2_code 0 = .ok (.aload_n 0, 1) := by decide +kernel
theorem d4_1 : decode prog_47_method_2_code 1 = .ok (.aload_n 1, 1) := by decide +kernel
theorem d4_2 : decode prog_47_method_2_code 2 = .ok (.putfield 7, 3) := by decide +kernel
theorem d4_5 : decode prog_47_method_2_code 5 = .ok (.aload_n 0, 1) := by decide +kernel
theorem d4_6 : decode prog_47_method_2_code 6 = .ok (.dload_n 2, 1) := by decide +kernel
theorem d4_7 : decode prog_47_method_2_code 7 = .ok (.putfield 26, 3) := by decide +kernel
theorem d4_10 : decode prog_47_method_2_code 10 = .ok (.aload_n 0, 1) := by decide +kernel
theorem d4_11 : decode prog_47_method_2_code 11 = .ok (.iconst (-1), 1) := by decide +kernel
theorem d4_12 : decode prog_47_method_2_code 12 = .ok (.putfield 30, 3) := by decide +kernel
theorem d4_15 : decode prog_47_method_2_code 15 = .ok (.aload_n 0, 1) := by decide +kernel
theorem d4_16 : decode prog_47_method_2_code 16 = .ok (.iconst 1, 1) := by decide +kernel
theorem d4_17 : decode prog_47_method_2_code 17 = .ok (.putfield 34, 3) := by decide +kernel
theorem d4_20 : decode prog_47_method_2_code 20 = .ok (.aload_n 0, 1) := by decide +kernel
theorem d4_21 : decode prog_47_method_2_code 21 = .ok (.getfield 13, 3) := by decide +kernel
theorem d4_24 : decode prog_47_method_2_code 24 = .ok (.arraylength, 1) := by decide +kernel
theorem d4_25 : decode prog_47_method_2_code 25 = .ok (.aload_n 1, 1) := by decide +kernel
theorem d4_26 : decode prog_47_method_2_code 26 = .ok (.arraylength, 1) := by decide +kernel
theorem d4_27 : decode prog_47_method_2_code 27 = .ok (.if_icmp .gt 23, 3) := by decide +kernel
theorem d4_30 : decode prog_47_method_2_code 30 = .ok (.aload_n 0, 1) := by decide +kernel
theorem d4_31 : decode prog_47_method_2_code 31 = .ok (.iconst 2, 1) := by decide +kernel
theorem d4_32 : decode prog_47_method_2_code 32 = .ok (.aload_n 0, 1) := by decide +kernel
theorem d4_33 : decode prog_47_method_2_code 33 = .ok (.getfield 13, 3) := by decide +kernel
theorem d4_36 : decode prog_47_method_2_code 36 = .ok (.arraylength, 1) := by decide +kernel
theorem d4_37 : decode prog_47_method_2_code 37 = .ok (.imul, 1) := by decide +kernel
theorem d4_38 : decode prog_47_method_2_code 38 = .ok (.aload_n 1, 1) := by decide +kernel
theorem d4_39 : decode prog_47_method_2_code 39 = .ok (.arraylength, 1) := by decide +kernel
theorem d4_40 : decode prog_47_method_2_code 40 = .ok (.iconst 1, 1) := by decide +kernel
theorem d4_41 : decode prog_47_method_2_code 41 = .ok (.iadd, 1) := by decide +kernel
theorem d4_42 : decode prog_47_method_2_code 42 = .ok (.invokestatic 37, 3) := by decide +kernel
theorem d4_45 : decode prog_47_method_2_code 45 = .ok (.newarray .double, 2) := by decide +kernel
theorem d4_47 : decode prog_47_method_2_code 47 = .ok (.putfield 13, 3) := by decide +kernel
theorem d4_50 : decode prog_47_method_2_code 50 = .ok (.aload_n 1, 1) := by decide +kernel
theorem d4_51 : decode prog_47_method_2_code 51 = .ok (.arraylength, 1) := by decide +kernel
theorem d4_52 : decode prog_47_method_2_code 52 = .ok (.istore 4, 2) := by decide +kernel
theorem d4_54 : decode prog_47_method_2_code 54 = .ok (.aload_n 0, 1) := by decide +kernel
theorem d4_55 : decode prog_47_method_2_code 55 = .ok (.getfield 13, 3) := by decide +kernel
theorem d4_58 : decode prog_47_method_2_code 58 = .ok (.iload 4, 2) := by decide +kernel
theorem d4_60 : decode prog_47_method_2_code 60 = .ok (.dconst 0, 1) := by decide +kernel
theorem d4_61 : decode prog_47_method_2_code 61 = .ok (.dastore, 1) := by decide +kernel
theorem d4_62 : decode prog_47_method_2_code 62 = .ok (.dload_n 2, 1) := by decide +kernel
theorem d4_63 : decode prog_47_method_2_code 63 = .ok (.dconst 0, 1) := by decide +kernel
theorem d4_64 : decode prog_47_method_2_code 64 = .ok (.dcmp .l, 1) := by decide +kernel
theorem d4_65 : decode prog_47_method_2_code 65 = .ok (.ifCond .le 56, 3) := by decide +kernel
theorem d4_68 : decode prog_47_method_2_code 68 = .ok (.iload 4, 2) := by decide +kernel
theorem d4_70 : decode prog_47_method_2_code 70 = .ok (.ifCond .le 51, 3) := by decide +kernel
theorem d4_73 : decode prog_47_method_2_code 73 = .ok (.aload_n 0, 1) := by decide +kernel
theorem d4_74 : decode prog_47_method_2_code 74 = .ok (.getfield 13, 3) := by decide +kernel
theorem d4_77 : decode prog_47_method_2_code 77 = .ok (.iload 4, 2) := by decide +kernel
theorem d4_79 : decode prog_47_method_2_code 79 = .ok (.daload, 1) := by decide +kernel
theorem d4_80 : decode prog_47_method_2_code 80 = .ok (.aload_n 0, 1) := by decide +kernel
theorem d4_81 : decode prog_47_method_2_code 81 = .ok (.getfield 23, 3) := by decide +kernel
theorem d4_84 : decode prog_47_method_2_code 84 = .ok (.aload_n 1, 1) := by decide +kernel
theorem d4_85 : decode prog_47_method_2_code 85 = .ok (.iload 4, 2) := by decide +kernel
theorem d4_87 : decode prog_47_method_2_code 87 = .ok (.iconst 1, 1) := by decide +kernel
theorem d4_88 : decode prog_47_method_2_code 88 = .ok (.isub, 1) := by decide +kernel
theorem d4_89 : decode prog_47_method_2_code 89 = .ok (.iaload, 1) := by decide +kernel
theorem d4_90 : decode prog_47_method_2_code 90 = .ok (.daload, 1) := by decide +kernel
theorem d4_91 : decode prog_47_method_2_code 91 = .ok (.dadd, 1) := by decide +kernel
theorem d4_92 : decode prog_47_method_2_code 92 = .ok (.dstore 5, 2) := by decide +kernel
theorem d4_94 : decode prog_47_method_2_code 94 = .ok (.aload_n 0, 1) := by decide +kernel
theorem d4_95 : decode prog_47_method_2_code 95 = .ok (.getfield 13, 3) := by decide +kernel
theorem d4_98 : decode prog_47_method_2_code 98 = .ok (.iload 4, 2) := by decide +kernel
theorem d4_100 : decode prog_47_method_2_code 100 = .ok (.iconst 1, 1) := by decide +kernel
theorem d4_101 : decode prog_47_method_2_code 101 = .ok (.isub, 1) := by decide +kernel
theorem d4_102 : decode prog_47_method_2_code 102 = .ok (.dload 5, 2) := by decide +kernel
theorem d4_104 : decode prog_47_method_2_code 104 = .ok (.dastore, 1) := by decide +kernel
theorem d4_105 : decode prog_47_method_2_code 105 = .ok (.dload 5, 2) := by decide +kernel
theorem d4_107 : decode prog_47_method_2_code 107 = .ok (.dload_n 2, 1) := by decide +kernel
theorem d4_108 : decode prog_47_method_2_code 108 = .ok (.dcmp .l, 1) := by decide +kernel
theorem d4_109 : decode prog_47_method_2_code 109 = .ok (.ifCond .lt 6, 3) := by decide +kernel
theorem d4_112 : decode prog_47_method_2_code 112 = .ok (.goto 9, 3) := by decide +kernel
theorem d4_115 : decode prog_47_method_2_code 115 = .ok (.iinc 4 (-1), 3) := by decide +kernel
theorem d4_118 : decode prog_47_method_2_code 118 = .ok (.goto (-50), 3) := by decide +kernel
theorem d4_121 : decode prog_47_method_2_code 121 = .ok (.aload_n 0, 1) := by decide +kernel
theorem d4_122 : decode prog_47_method_2_code 122 = .ok (.iload 4, 2) := by decide +kernel
theorem d4_124 : decode prog_47_method_2_code 124 = .ok (.iconst 1, 1) := by decide +kernel
theorem d4_125 : decode prog_47_method_2_code 125 = .ok (.isub, 1) := by decide +kernel
theorem d4_126 : decode prog_47_method_2_code 126 = .ok (.putfield 43, 3) := by decide +kernel
theorem d4_129 : decode prog_47_method_2_code 129 = .ok (.aload_n 0, 1) := by decide +kernel
theorem d4_130 : decode prog_47_method_2_code 130 = .ok (.aload_n 0, 1) := by decide +kernel
theorem d4_131 : decode prog_47_method_2_code 131 = .ok (.getfield 43, 3) := by decide +kernel
theorem d4_134 : decode prog_47_method_2_code 134 = .ok (.putfield 46, 3) := by decide +kernel
theorem d4_137 : decode prog_47_method_2_code 137 = .ok (.iload 4, 2) := by decide +kernel
theorem d4_139 : decode prog_47_method_2_code 139 = .ok (.ireturn, 1) := by decide +kernel
theorem pn_4 : plainName "com/example/nearjoin/nearjoin/join/PrefixCut" = true := by first | (simp [plainName, overriddenIn]; done) | decide +kernel
theorem ef_4 (m : MethodId) (x0 : Addr) (x1 : Addr) (x2 : UInt64) : entryFrame m #[(.ref x0), (.ref x1), (.double x2)] 7 = mkF m 0 #[.val (.ref x0), .val (.ref x1), .val (.double x2), .second, .unset, .unset, .unset] [] := by first | (simp [entryFrame, mkF, argsToLocals, Value.category]; done) | rfl
def own_f4 (nn : Int32) (kq ve0 ve1 ve2 ve3 : Int64) : Int32 := if nn = (0 : Int32) then (0 : Int32) else if nn = (1 : Int32) then (if (0 : Int64) < kq then (if (((0 : Int64) + ve0) + ((0 : Int64) + ve0)) < kq then (0 : Int32) else (1 : Int32)) else (1 : Int32)) else if nn = (2 : Int32) then (if (0 : Int64) < kq then (if (((0 : Int64) + ve1) + ((0 : Int64) + ve1)) < kq then (if ((((0 : Int64) + ve1) + ve0) + (((0 : Int64) + ve1) + ve0)) < kq then (0 : Int32) else (1 : Int32)) else (2 : Int32)) else (2 : Int32)) else if nn = (3 : Int32) then (if (0 : Int64) < kq then (if (((0 : Int64) + ve2) + ((0 : Int64) + ve2)) < kq then (if ((((0 : Int64) + ve2) + ve1) + (((0 : Int64) + ve2) + ve1)) < kq then (if (((((0 : Int64) + ve2) + ve1) + ve0) + ((((0 : Int64) + ve2) + ve1) + ve0)) < kq then (0 : Int32) else (1 : Int32)) else (2 : Int32)) else (3 : Int32)) else (3 : Int32)) else (if (0 : Int64) < kq then (if (((0 : Int64) + ve3) + ((0 : Int64) + ve3)) < kq then (if ((((0 : Int64) + ve3) + ve2) + (((0 : Int64) + ve3) + ve2)) < kq then (if (((((0 : Int64) + ve3) + ve2) + ve1) + ((((0 : Int64) + ve3) + ve2) + ve1)) < kq then (if ((((((0 : Int64) + ve3) + ve2) + ve1) + ve0) + (((((0 : Int64) + ve3) + ve2) + ve1) + ve0)) < kq then (0 : Int32) else (1 : Int32)) else (2 : Int32)) else (3 : Int32)) else (4 : Int32)) else (4 : Int32))
theorem own_f4_0 {kq ve0 ve1 ve2 ve3 : Int64} : own_f4 (0 : Int32) kq ve0 ve1 ve2 ve3 = (0 : Int32) := by
  unfold own_f4
  rw [if_pos rfl]
theorem own_f4_1 {kq ve0 ve1 ve2 ve3 : Int64} : own_f4 (1 : Int32) kq ve0 ve1 ve2 ve3 = (if (0 : Int64) < kq then (if (((0 : Int64) + ve0) + ((0 : Int64) + ve0)) < kq then (0 : Int32) else (1 : Int32)) else (1 : Int32)) := by
  unfold own_f4
  rw [if_neg (by decide), if_pos rfl]
theorem own_f4_2 {kq ve0 ve1 ve2 ve3 : Int64} : own_f4 (2 : Int32) kq ve0 ve1 ve2 ve3 = (if (0 : Int64) < kq then (if (((0 : Int64) + ve1) + ((0 : Int64) + ve1)) < kq then (if ((((0 : Int64) + ve1) + ve0) + (((0 : Int64) + ve1) + ve0)) < kq then (0 : Int32) else (1 : Int32)) else (2 : Int32)) else (2 : Int32)) := by
  unfold own_f4
  rw [if_neg (by decide), if_neg (by decide), if_pos rfl]
theorem own_f4_3 {kq ve0 ve1 ve2 ve3 : Int64} : own_f4 (3 : Int32) kq ve0 ve1 ve2 ve3 = (if (0 : Int64) < kq then (if (((0 : Int64) + ve2) + ((0 : Int64) + ve2)) < kq then (if ((((0 : Int64) + ve2) + ve1) + (((0 : Int64) + ve2) + ve1)) < kq then (if (((((0 : Int64) + ve2) + ve1) + ve0) + ((((0 : Int64) + ve2) + ve1) + ve0)) < kq then (0 : Int32) else (1 : Int32)) else (2 : Int32)) else (3 : Int32)) else (3 : Int32)) := by
  unfold own_f4
  rw [if_neg (by decide), if_neg (by decide), if_neg (by decide), if_pos rfl]
theorem own_f4_4 {kq ve0 ve1 ve2 ve3 : Int64} : own_f4 (4 : Int32) kq ve0 ve1 ve2 ve3 = (if (0 : Int64) < kq then (if (((0 : Int64) + ve3) + ((0 : Int64) + ve3)) < kq then (if ((((0 : Int64) + ve3) + ve2) + (((0 : Int64) + ve3) + ve2)) < kq then (if (((((0 : Int64) + ve3) + ve2) + ve1) + ((((0 : Int64) + ve3) + ve2) + ve1)) < kq then (if ((((((0 : Int64) + ve3) + ve2) + ve1) + ve0) + (((((0 : Int64) + ve3) + ve2) + ve1) + ve0)) < kq then (0 : Int32) else (1 : Int32)) else (2 : Int32)) else (3 : Int32)) else (4 : Int32)) else (4 : Int32)) := by
  unfold own_f4
  rw [if_neg (by decide), if_neg (by decide), if_neg (by decide), if_neg (by decide)]
def Q4 (Z : State) (a1 : Addr) (a2 : Addr) (d3 : UInt64) (w_suffix_a1 : Addr) (w_weights_a1 : Addr) (k_w_suffix_a1 : ClassId) (NN : Int32) (u0 : UInt64) (u1 : UInt64) (u2 : UInt64) (u3 : UInt64) (u4 : UInt64) (k_w_weights_a1 : ClassId) (w0 : Int64) (w1 : Int64) (w2 : Int64) (w3 : Int64) (w4 : Int64) (w5 : Int64) (w6 : Int64) (w7 : Int64) (k_a2 : ClassId) (nn : Int32) (r0 : Int32) (r1 : Int32) (r2 : Int32) (r3 : Int32) (kq : Int64) (ve0 : Int64) (ve1 : Int64) (ve2 : Int64) (ve3 : Int64) (w_firstLast_a1 : Int32) (w_last_a1 : Int32) (u_bag_a1 : Value) (u_least_a1 : Value) (u_heavyCount_a1 : Value) (u_lastLevel_a1 : Value) (h0 : Heap) (n0 : Nat) (v : Option Value) (h : Heap) (L : List Loc) : Prop := ∃ (sx : Addr) (kx : ClassId) (nx : Int32) (x0 x1 x2 x3 x4 : UInt64) (fl la : Int32), v = some (.int (own_f4 nn kq ve0 ve1 ve2 ve3)) ∧ Fr n0 L ∧ Keep h0 h [a1, w_suffix_a1] ∧ n0 ≤ sx ∧ (sx = w_suffix_a1 ∨ h0.size ≤ sx) ∧ nx = own_fN nn NN ∧ Exa Z h a1 "com/example/nearjoin/nearjoin/join/PrefixCut" ∧ Fld Z h a1 "com/example/nearjoin/nearjoin/join/PrefixCut" "bag" "[I" (.ref a2) ∧ Fld Z h a1 "com/example/nearjoin/nearjoin/join/PrefixCut" "least" "D" (.double d3) ∧ Fld Z h a1 "com/example/nearjoin/nearjoin/join/PrefixCut" "heavyCount" "I" (.int (-1 : Int32)) ∧ Fld Z h a1 "com/example/nearjoin/nearjoin/join/PrefixCut" "lastLevel" "I" (.int (1 : Int32)) ∧ Fld Z h a1 "com/example/nearjoin/nearjoin/join/PrefixCut" "suffix" "[D" (.ref sx) ∧ Fld Z h a1 "com/example/nearjoin/nearjoin/join/PrefixCut" "weights" "[D" (.ref w_weights_a1) ∧ Fld Z h a1 "com/example/nearjoin/nearjoin/join/PrefixCut" "firstLast" "I" (.int fl) ∧ Fld Z h a1 "com/example/nearjoin/nearjoin/join/PrefixCut" "last" "I" (.int la) ∧ Arv Z h sx kx .double nx [(.double x0), (.double x1), (.double x2), (.double x3), (.double x4)] (.double (FP.l2d (0 : Int64)))
set_option maxRecDepth 65536 in
set_option maxHeartbeats 40000000 in
theorem rm4 (l : Launch) (Z : State) (a0 : Array Value) (hw : ∀ d ∈ tables_1, d.before a0 Z = true) (ws : List Jvm.Cond) (a1 : Addr) (a2 : Addr) (d3 : UInt64) (w_suffix_a1 : Addr) (w_weights_a1 : Addr) (k_w_suffix_a1 : ClassId) (NN : Int32) (u0 : UInt64) (u1 : UInt64) (u2 : UInt64) (u3 : UInt64) (u4 : UInt64) (k_w_weights_a1 : ClassId) (w0 : Int64) (w1 : Int64) (w2 : Int64) (w3 : Int64) (w4 : Int64) (w5 : Int64) (w6 : Int64) (w7 : Int64) (k_a2 : ClassId) (nn : Int32) (r0 : Int32) (r1 : Int32) (r2 : Int32) (r3 : Int32) (kq : Int64) (ve0 : Int64) (ve1 : Int64) (ve2 : Int64) (ve3 : Int64) (w_firstLast_a1 : Int32) (w_last_a1 : Int32) (u_bag_a1 : Value) (u_least_a1 : Value) (u_heavyCount_a1 : Value) (u_lastLevel_a1 : Value) (h0 : Heap) (n0 : Nat) (Z0 : n0 ≤ h0.size) (F_suffix_a1 : Fld Z h0 a1 "com/example/nearjoin/nearjoin/join/PrefixCut" "suffix" "[D" (.ref w_suffix_a1)) (F_weights_a1 : Fld Z h0 a1 "com/example/nearjoin/nearjoin/join/PrefixCut" "weights" "[D" (.ref w_weights_a1)) (E_a1 : Exa Z h0 a1 "com/example/nearjoin/nearjoin/join/PrefixCut") (V_w_suffix_a1 : Arv Z h0 w_suffix_a1 k_w_suffix_a1 .double NN [(.double u0), (.double u1), (.double u2), (.double u3), (.double u4)] (.double (FP.l2d (0 : Int64)))) (V_w_weights_a1 : Arv Z h0 w_weights_a1 k_w_weights_a1 .double (8 : Int32) [(.double (FP.l2d w0)), (.double (FP.l2d w1)), (.double (FP.l2d w2)), (.double (FP.l2d w3)), (.double (FP.l2d w4)), (.double (FP.l2d w5)), (.double (FP.l2d w6)), (.double (FP.l2d w7))] (.double (FP.l2d (0 : Int64)))) (V_a2 : Arv Z h0 a2 k_a2 .int nn [(.int r0), (.int r1), (.int r2), (.int r3)] (.int (0 : Int32))) (hd : d3 = own_half kq) (hk : own_K kq) (hn : own_n nn) (hE0 : ve0 = own_get8 w0 w1 w2 w3 w4 w5 w6 w7 r0) (hB0 : own_B 255 ve0) (hR0 : own_R r0) (hE1 : ve1 = own_get8 w0 w1 w2 w3 w4 w5 w6 w7 r1) (hB1 : own_B 255 ve1) (hR1 : own_R r1) (hE2 : ve2 = own_get8 w0 w1 w2 w3 w4 w5 w6 w7 r2) (hB2 : own_B 255 ve2) (hR2 : own_R r2) (hE3 : ve3 = own_get8 w0 w1 w2 w3 w4 w5 w6 w7 r3) (hB3 : own_B 255 ve3) (hR3 : own_R r3) (hN : own_N NN) (ne_a1_w_suffix_a1 : a1 ≠ w_suffix_a1) (ne_a1_w_weights_a1 : a1 ≠ w_weights_a1) (ne_a1_a2 : a1 ≠ a2) (ne_w_weights_a1_w_suffix_a1 : w_weights_a1 ≠ w_suffix_a1) (ne_a2_w_suffix_a1 : a2 ≠ w_suffix_a1) (g_w_suffix_a1 : n0 ≤ w_suffix_a1) (g_a1 : n0 ≤ a1) (F_firstLast_a1 : Fld Z h0 a1 "com/example/nearjoin/nearjoin/join/PrefixCut" "firstLast" "I" (.int w_firstLast_a1)) (F_last_a1 : Fld Z h0 a1 "com/example/nearjoin/nearjoin/join/PrefixCut" "last" "I" (.int w_last_a1)) (F_bag_a1 : Fld Z h0 a1 "com/example/nearjoin/nearjoin/join/PrefixCut" "bag" "[I" u_bag_a1) (F_least_a1 : Fld Z h0 a1 "com/example/nearjoin/nearjoin/join/PrefixCut" "least" "D" u_least_a1) (F_heavyCount_a1 : Fld Z h0 a1 "com/example/nearjoin/nearjoin/join/PrefixCut" "heavyCount" "I" u_heavyCount_a1) (F_lastLevel_a1 : Fld Z h0 a1 "com/example/nearjoin/nearjoin/join/PrefixCut" "lastLevel" "I" u_lastLevel_a1) :
    MetFree l (⟨"com/example/nearjoin/nearjoin/join/PrefixCut", "start", "([ID)I"⟩ : MethodName) (head1 (Jvm.Cond.code (⟨"com/example/nearjoin/nearjoin/join/PrefixCut", "start", "([ID)I"⟩ : MethodName) prog_47_method_2_code 7 (some .int) :: ws) ({ frames := 1, cells := 1, slots := 8, locals := 14 } : Room)) (fun a U => a = #[(.ref a1), (.ref a2), (.double d3)] ∧ Z.Warmed39 U.vm ∧ U.heap = h0) (fun _ _ _ _ _ => True) (fun _ U o U' => ∃ v L, o = .returned v ∧ Q4 Z a1 a2 d3 w_suffix_a1 w_weights_a1 k_w_suffix_a1 NN u0 u1 u2 u3 u4 k_w_weights_a1 w0 w1 w2 w3 w4 w5 w6 w7 k_a2 nn r0 r1 r2 r3 kq ve0 ve1 ve2 ve3 w_firstLast_a1 w_last_a1 u_bag_a1 u_least_a1 u_heavyCount_a1 u_lastLevel_a1 h0 n0 v U'.heap L ∧ FrameEnd U o U' L ({ frames := 1, cells := 1, slots := 8, locals := 14 } : Room).cells ({ frames := 1, cells := 1, slots := 8, locals := 14 } : Room).slots) := by
  refine MetFree.of_bodySF (plainFor_of_name pn_4) hisR ?_
  intro p e s m args below meth c s₁ Bd hml0 hP hK
  obtain ⟨rfl, hZ, hh⟩ := hP
  have hx := Bd.exec
  have hby := Bd.bytes
  have hml : c.maxLocals = 7 := hml0
  have hown : s.vm.findClass "com/example/nearjoin/nearjoin/join/PrefixCut" = some m.cls := findClass_of_methodNamed Bd.named
  have hnm := (name_of_methodNamed Bd.named Bd.method).1
  have X0 : Stand p l e ({ frames := 1, cells := 1, slots := 8, locals := 14 } : Room) s m #[(.ref a1), (.ref a2), (.double d3)] below meth c s₁ [] 0 0 := Stand.of_body Bd
  have e0 : s₁.heap = h0 := by rw [← hh, Bd.state]; rfl
  have N0 := Fr.nil n0
  apply own_in
  refine own_pre (B := s₁.setTop (mkF m 0 #[.val (.ref a1), .val (.ref a2), .val (.double d3), .second, .unset, .unset, .unset] [])) (fun t k => castTop (ef_4 m a1 a2 d3) k) ?_
  refine own_pre (B := s₁.setTop (mkF m 1 #[.val (.ref a1), .val (.ref a2), .val (.double d3), .second, .unset, .unset, .unset] [(.ref a1)])) (fun t k => XS.aloadN X0.here hx rfl (hb hby d4_0) rfl rfl k) ?_
  refine own_pre (B := s₁.setTop (mkF m 2 #[.val (.ref a1), .val (.ref a2), .val (.double d3), .second, .unset, .unset, .unset] [(.ref a2), (.ref a1)])) (fun t k => XS.aloadN X0.here hx rfl (hb hby d4_1) rfl rfl k) ?_
  have K4 : Keep h0 h0 [a1, w_suffix_a1] := (Keep.refl h0 [a1, w_suffix_a1])
  obtain ⟨T5, h5, X5, e5, W5, st5⟩ := putF X0 hx hZ hown (host := "") (Or.inl (hw _ (ow 17 rfl))) Via.refl e0 F_bag_a1 E_a1 (Or.inl (hw _ (ow 18 rfl))) (hw _ (ow 9 rfl)) (ty := (.array .int)) (by decide) rfl rfl (g := (mkF m 2 #[.val (.ref a1), .val (.ref a2), .val (.double d3), .second, .unset, .unset, .unset] [(.ref a2), (.ref a1)])) rfl rfl (hb hby d4_2)
  have Fw5 := Fld.same W5 F_bag_a1
  have N5 := Fr.snoc X5 N0 g_a1
  obtain ⟨Lh6, Xh6, Nh6⟩ := own_hide X5 N5
  refine own_pre (B := T5.setTop (mkF m 5 #[.val (.ref a1), .val (.ref a2), .val (.double d3), .second, .unset, .unset, .unset] [])) (fun t k => st5 t k) ?_
  refine own_pre (B := T5.setTop (mkF m 6 #[.val (.ref a1), .val (.ref a2), .val (.double d3), .second, .unset, .unset, .unset] [(.ref a1)])) (fun t k => XS.aloadN Xh6.here hx rfl (hb hby d4_5) rfl rfl k) ?_
  refine own_pre (B := T5.setTop (mkF m 7 #[.val (.ref a1), .val (.ref a2), .val (.double d3), .second, .unset, .unset, .unset] [(.double d3), (.ref a1)])) (fun t k => XS.dloadN Xh6.here hx rfl (hb hby d4_6) rfl k) ?_
  have c7 := (Exa.wr W5 E_a1)
  have c8 := (Fld.other W5 F_least_a1 (Or.inr (slot_ne (Or.inl (hw _ (ow 33 rfl))) (Or.inl (hw _ (ow 18 rfl))) (by decide) (t := .double) (t' := (.array .int)) (by decide) (by decide))))
  have K9 : Keep h0 h5 [a1, w_suffix_a1] := (Keep.wr K4 W5 (Or.inl (List.mem_of_getElem? (i := 0) rfl)))
  obtain ⟨T10, h10, X10, e10, W10, st10⟩ := putF Xh6 hx hZ hown (host := "") (Or.inl (hw _ (ow 32 rfl))) Via.refl e5 c8 c7 (Or.inl (hw _ (ow 33 rfl))) (hw _ (ow 9 rfl)) (ty := .double) (by decide) rfl rfl (g := (mkF m 7 #[.val (.ref a1), .val (.ref a2), .val (.double d3), .second, .unset, .unset, .unset] [(.double d3), (.ref a1)])) rfl rfl (hb hby d4_7)
  have Fw10 := Fld.same W10 c8
  have N10 := Fr.snoc X10 Nh6 g_a1
  obtain ⟨Lh11, Xh11, Nh11⟩ := own_hide X10 N10
  refine own_pre (B := T10.setTop (mkF m 10 #[.val (.ref a1), .val (.ref a2), .val (.double d3), .second, .unset, .unset, .unset] [])) (fun t k => st10 t k) ?_
  refine own_pre (B := T10.setTop (mkF m 11 #[.val (.ref a1), .val (.ref a2), .val (.double d3), .second, .unset, .unset, .unset] [(.ref a1)])) (fun t k => XS.aloadN Xh11.here hx rfl (hb hby d4_10) rfl rfl k) ?_
  refine own_pre (B := T10.setTop (mkF m 12 #[.val (.ref a1), .val (.ref a2), .val (.double d3), .second, .unset, .unset, .unset] [(.int (-1 : Int32)), (.ref a1)])) (fun t k => XS.iconst Xh11.here hx rfl (hb hby d4_11) k) ?_
  have c12 := (Exa.wr W10 c7)
  have c13 := (Fld.other W10 (Fld.other W5 F_heavyCount_a1 (Or.inr (slot_ne (Or.inl (hw _ (ow 35 rfl))) (Or.inl (hw _ (ow 18 rfl))) (by decide) (t := .int) (t' := (.array .int)) (by decide) (by decide)))) (Or.inr (slot_ne (Or.inl (hw _ (ow 35 rfl))) (Or.inl (hw _ (ow 33 rfl))) (by decide) (t := .int) (t' := .double) (by decide) (by decide))))
  have K14 : Keep h0 h10 [a1, w_suffix_a1] := (Keep.wr K9 W10 (Or.inl (List.mem_of_getElem? (i := 0) rfl)))
  obtain ⟨T15, h15, X15, e15, W15, st15⟩ := putF Xh11 hx hZ hown (host := "") (Or.inl (hw _ (ow 34 rfl))) Via.refl e10 c13 c12 (Or.inl (hw _ (ow 35 rfl))) (hw _ (ow 9 rfl)) (ty := .int) (by decide) rfl rfl (g := (mkF m 12 #[.val (.ref a1), .val (.ref a2), .val (.double d3), .second, .unset, .unset, .unset] [(.int (-1 : Int32)), (.ref a1)])) rfl rfl (hb hby d4_12)
  have Fw15 := Fld.same W15 c13
  have N15 := Fr.snoc X15 Nh11 g_a1
  obtain ⟨Lh16, Xh16, Nh16⟩ := own_hide X15 N15
  refine own_pre (B := T15.setTop (mkF m 15 #[.val (.ref a1), .val (.ref a2), .val (.double d3), .second, .unset, .unset, .unset] [])) (fun t k => st15 t k) ?_
  refine own_pre (B := T15.setTop (mkF m 16 #[.val (.ref a1), .val (.ref a2), .val (.double d3), .second, .unset, .unset, .unset] [(.ref a1)])) (fun t k => XS.aloadN Xh16.here hx rfl (hb hby d4_15) rfl rfl k) ?_
  refine own_pre (B := T15.setTop (mkF m 17 #[.val (.ref a1), .val (.ref a2), .val (.double d3), .second, .unset, .unset, .unset] [(.int (1 : Int32)), (.ref a1)])) (fun t k => XS.iconst Xh16.here hx rfl (hb hby d4_16) k) ?_
  have c17 := (Exa.wr W15 c12)
  have c18 := (Fld.other W15 (Fld.other W10 (Fld.other W5 F_lastLevel_a1 (Or.inr (slot_ne (Or.inl (hw _ (ow 37 rfl))) (Or.inl (hw _ (ow 18 rfl))) (by decide) (t := .int) (t' := (.array .int)) (by decide) (by decide)))) (Or.inr (slot_ne (Or.inl (hw _ (ow 37 rfl))) (Or.inl (hw _ (ow 33 rfl))) (by decide) (t := .int) (t' := .double) (by decide) (by decide)))) (Or.inr (slot_ne (Or.inl (hw _ (ow 37 rfl))) (Or.inl (hw _ (ow 35 rfl))) (by decide) (t := .int) (t' := .int) (by decide) (by decide))))
  have K19 : Keep h0 h15 [a1, w_suffix_a1] := (Keep.wr K14 W15 (Or.inl (List.mem_of_getElem? (i := 0) rfl)))
  obtain ⟨T20, h20, X20, e20, W20, st20⟩ := putF Xh16 hx hZ hown (host := "") (Or.inl (hw _ (ow 36 rfl))) Via.refl e15 c18 c17 (Or.inl (hw _ (ow 37 rfl))) (hw _ (ow 9 rfl)) (ty := .int) (by decide) rfl rfl (g := (mkF m 17 #[.val (.ref a1), .val (.ref a2), .val (.double d3), .second, .unset, .unset, .unset] [(.int (1 : Int32)), (.ref a1)])) rfl rfl (hb hby d4_17)
  have Fw20 := Fld.same W20 c18
  have N20 := Fr.snoc X20 Nh16 g_a1
  obtain ⟨Lh21, Xh21, Nh21⟩ := own_hide X20 N20
  refine own_pre (B := T20.setTop (mkF m 20 #[.val (.ref a1), .val (.ref a2), .val (.double d3), .second, .unset, .unset, .unset] [])) (fun t k => st20 t k) ?_
  refine own_pre (B := T20.setTop (mkF m 21 #[.val (.ref a1), .val (.ref a2), .val (.double d3), .second, .unset, .unset, .unset] [(.ref a1)])) (fun t k => XS.aloadN Xh21.here hx rfl (hb hby d4_20) rfl rfl k) ?_
  have c22 := (Fld.other W20 (Fld.other W15 (Fld.other W10 (Fld.other W5 F_suffix_a1 (Or.inr (slot_ne (Or.inl (hw _ (ow 20 rfl))) (Or.inl (hw _ (ow 18 rfl))) (by decide) (t := (.array .double)) (t' := (.array .int)) (by decide) (by decide)))) (Or.inr (slot_ne (Or.inl (hw _ (ow 20 rfl))) (Or.inl (hw _ (ow 33 rfl))) (by decide) (t := (.array .double)) (t' := .double) (by decide) (by decide)))) (Or.inr (slot_ne (Or.inl (hw _ (ow 20 rfl))) (Or.inl (hw _ (ow 35 rfl))) (by decide) (t := (.array .double)) (t' := .int) (by decide) (by decide)))) (Or.inr (slot_ne (Or.inl (hw _ (ow 20 rfl))) (Or.inl (hw _ (ow 37 rfl))) (by decide) (t := (.array .double)) (t' := .int) (by decide) (by decide))))
  obtain ⟨T23, X23, e23, st23⟩ := getF Xh21 hx hZ hown (host := "") (Or.inl (hw _ (ow 19 rfl))) Via.refl e20 c22 (g := (mkF m 21 #[.val (.ref a1), .val (.ref a2), .val (.double d3), .second, .unset, .unset, .unset] [(.ref a1)])) rfl rfl (hb hby d4_21)
  refine own_pre (B := T23.setTop (mkF m 24 #[.val (.ref a1), .val (.ref a2), .val (.double d3), .second, .unset, .unset, .unset] [(.ref w_suffix_a1)])) (fun t k => st23 t k) ?_
  have c24 := (Arv.other (Arv.other (Arv.other (Arv.other V_w_suffix_a1 W5 (Ne.symm ne_a1_w_suffix_a1)) W10 (Ne.symm ne_a1_w_suffix_a1)) W15 (Ne.symm ne_a1_w_suffix_a1)) W20 (Ne.symm ne_a1_w_suffix_a1))
  obtain ⟨cl25, Ar25, -, S25, N25v, -, -⟩ := id c24
  refine own_pre (B := T23.setTop (mkF m 25 #[.val (.ref a1), .val (.ref a2), .val (.double d3), .second, .unset, .unset, .unset] [(.int NN)])) (fun t k => X23.arraylength hx (by rw [e23]; exact Ar25.1) (State.isArrayOf_alike hZ.alike Ar25.2.1) (g := (mkF m 24 #[.val (.ref a1), .val (.ref a2), .val (.double d3), .second, .unset, .unset, .unset] [(.ref w_suffix_a1)])) rfl rfl (hb hby d4_24) t (by rw [len_of S25 N25v]; exact k)) ?_
  refine own_pre (B := T23.setTop (mkF m 26 #[.val (.ref a1), .val (.ref a2), .val (.double d3), .second, .unset, .unset, .unset] [(.ref a2), (.int NN)])) (fun t k => XS.aloadN X23.here hx rfl (hb hby d4_25) rfl rfl k) ?_
  have c26 := (Arv.other (Arv.other (Arv.other (Arv.other V_a2 W5 (Ne.symm ne_a1_a2)) W10 (Ne.symm ne_a1_a2)) W15 (Ne.symm ne_a1_a2)) W20 (Ne.symm ne_a1_a2))
  obtain ⟨cl27, Ar27, -, S27, N27v, -, -⟩ := id c26
  refine own_pre (B := T23.setTop (mkF m 27 #[.val (.ref a1), .val (.ref a2), .val (.double d3), .second, .unset, .unset, .unset] [(.int nn), (.int NN)])) (fun t k => X23.arraylength hx (by rw [e23]; exact Ar27.1) (State.isArrayOf_alike hZ.alike Ar27.2.1) (g := (mkF m 26 #[.val (.ref a1), .val (.ref a2), .val (.double d3), .second, .unset, .unset, .unset] [(.ref a2), (.int NN)])) rfl rfl (hb hby d4_26) t (by rw [len_of S27 N27v]; exact k)) ?_
  have K29 : Keep h0 h20 [a1, w_suffix_a1] := (Keep.wr K19 W20 (Or.inl (List.mem_of_getElem? (i := 0) rfl)))
  obtain ⟨_, ⟨T28, h28, L28, sx, kx, nx, x0, x1, x2, x3, x4, rfl, X28, e28, N28, K28j, gsx, osx, msx, nesx0, nesx1, nesx2, hlt, hnx, Fsx, Vsx, j28_0, j28_1, j28_2, j28_3, j28_4, j28_5, j28_6, j28_7, j28_8, j28_9⟩, st28⟩ : own_J p.tables e below (fun B => ∃ (T' : State) (h' : Heap) (L' : List Loc) (sx : Addr) (kx : ClassId) (nx : Int32) (x0 x1 x2 x3 x4 : UInt64), B = T'.setTop (mkF m 50 #[.val (.ref a1), .val (.ref a2), .val (.double d3), .second, .unset, .unset, .unset] []) ∧ Stand p l e ({ frames := 1, cells := 1, slots := 8, locals := 14 } : Room) s m #[(.ref a1), (.ref a2), (.double d3)] below meth c T' L' 1 8 ∧ T'.heap = h' ∧ Fr n0 L' ∧ Keep h0 h' [a1, w_suffix_a1] ∧ n0 ≤ sx ∧ (sx = w_suffix_a1 ∨ h0.size ≤ sx) ∧ (sx ∈ [a1, w_suffix_a1] ∨ h0.size ≤ sx) ∧ a1 ≠ sx ∧ w_weights_a1 ≠ sx ∧ a2 ≠ sx ∧ nn < nx ∧ nx = own_fN nn NN ∧ Fld Z h' a1 "com/example/nearjoin/nearjoin/join/PrefixCut" "suffix" "[D" (.ref sx) ∧ Arv Z h' sx kx .double nx [(.double x0), (.double x1), (.double x2), (.double x3), (.double x4)] (.double (FP.l2d (0 : Int64))) ∧ Exa Z h' a1 "com/example/nearjoin/nearjoin/join/PrefixCut" ∧ Fld Z h' a1 "com/example/nearjoin/nearjoin/join/PrefixCut" "bag" "[I" (.ref a2) ∧ Fld Z h' a1 "com/example/nearjoin/nearjoin/join/PrefixCut" "least" "D" (.double d3) ∧ Fld Z h' a1 "com/example/nearjoin/nearjoin/join/PrefixCut" "heavyCount" "I" (.int (-1 : Int32)) ∧ Fld Z h' a1 "com/example/nearjoin/nearjoin/join/PrefixCut" "lastLevel" "I" (.int (1 : Int32)) ∧ Fld Z h' a1 "com/example/nearjoin/nearjoin/join/PrefixCut" "weights" "[D" (.ref w_weights_a1) ∧ Fld Z h' a1 "com/example/nearjoin/nearjoin/join/PrefixCut" "firstLast" "I" (.int w_firstLast_a1) ∧ Fld Z h' a1 "com/example/nearjoin/nearjoin/join/PrefixCut" "last" "I" (.int w_last_a1) ∧ Arv Z h' w_weights_a1 k_w_weights_a1 .double (8 : Int32) [(.double (FP.l2d w0)), (.double (FP.l2d w1)), (.double (FP.l2d w2)), (.double (FP.l2d w3)), (.double (FP.l2d w4)), (.double (FP.l2d w5)), (.double (FP.l2d w6)), (.double (FP.l2d w7))] (.double (FP.l2d (0 : Int64))) ∧ Arv Z h' a2 k_a2 .int nn [(.int r0), (.int r1), (.int r2), (.int r3)] (.int (0 : Int32))) (T23.setTop (mkF m 27 #[.val (.ref a1), .val (.ref a2), .val (.double d3), .second, .unset, .unset, .unset] [(.int nn), (.int NN)])) := by
    by_cases hc27_30 : nn < NN
    · refine own_preJ (B := T23.setTop (mkF m 50 #[.val (.ref a1), .val (.ref a2), .val (.double d3), .second, .unset, .unset, .unset] [])) (fun t k => XS.icmpYes X23.here hx rfl (pc0 := 27) (pc' := 50) rfl (hb hby d4_27) rfl (tlt hc27_30).2.2.1 (by decide) (by decide) k) ?_
      have c31 := (Exa.wr W20 c17)
      have c32 := (Fld.other W20 (Fld.other W15 (Fld.other W10 Fw5 (Or.inr (slot_ne (Or.inl (hw _ (ow 18 rfl))) (Or.inl (hw _ (ow 33 rfl))) (by decide) (t := (.array .int)) (t' := .double) (by decide) (by decide)))) (Or.inr (slot_ne (Or.inl (hw _ (ow 18 rfl))) (Or.inl (hw _ (ow 35 rfl))) (by decide) (t := (.array .int)) (t' := .int) (by decide) (by decide)))) (Or.inr (slot_ne (Or.inl (hw _ (ow 18 rfl))) (Or.inl (hw _ (ow 37 rfl))) (by decide) (t := (.array .int)) (t' := .int) (by decide) (by decide))))
      have c33 := (Fld.other W20 (Fld.other W15 Fw10 (Or.inr (slot_ne (Or.inl (hw _ (ow 33 rfl))) (Or.inl (hw _ (ow 35 rfl))) (by decide) (t := .double) (t' := .int) (by decide) (by decide)))) (Or.inr (slot_ne (Or.inl (hw _ (ow 33 rfl))) (Or.inl (hw _ (ow 37 rfl))) (by decide) (t := .double) (t' := .int) (by decide) (by decide))))
      have c34 := (Fld.other W20 Fw15 (Or.inr (slot_ne (Or.inl (hw _ (ow 35 rfl))) (Or.inl (hw _ (ow 37 rfl))) (by decide) (t := .int) (t' := .int) (by decide) (by decide))))
      have c35 := (Fld.other W20 (Fld.other W15 (Fld.other W10 (Fld.other W5 F_weights_a1 (Or.inr (slot_ne (Or.inr (hw _ (ow 26 rfl))) (Or.inl (hw _ (ow 18 rfl))) (by decide) (t := (.array .double)) (t' := (.array .int)) (by decide) (by decide)))) (Or.inr (slot_ne (Or.inr (hw _ (ow 26 rfl))) (Or.inl (hw _ (ow 33 rfl))) (by decide) (t := (.array .double)) (t' := .double) (by decide) (by decide)))) (Or.inr (slot_ne (Or.inr (hw _ (ow 26 rfl))) (Or.inl (hw _ (ow 35 rfl))) (by decide) (t := (.array .double)) (t' := .int) (by decide) (by decide)))) (Or.inr (slot_ne (Or.inr (hw _ (ow 26 rfl))) (Or.inl (hw _ (ow 37 rfl))) (by decide) (t := (.array .double)) (t' := .int) (by decide) (by decide))))
      have c36 := (Fld.other W20 (Fld.other W15 (Fld.other W10 (Fld.other W5 F_firstLast_a1 (Or.inr (slot_ne (Or.inl (hw _ (ow 39 rfl))) (Or.inl (hw _ (ow 18 rfl))) (by decide) (t := .int) (t' := (.array .int)) (by decide) (by decide)))) (Or.inr (slot_ne (Or.inl (hw _ (ow 39 rfl))) (Or.inl (hw _ (ow 33 rfl))) (by decide) (t := .int) (t' := .double) (by decide) (by decide)))) (Or.inr (slot_ne (Or.inl (hw _ (ow 39 rfl))) (Or.inl (hw _ (ow 35 rfl))) (by decide) (t := .int) (t' := .int) (by decide) (by decide)))) (Or.inr (slot_ne (Or.inl (hw _ (ow 39 rfl))) (Or.inl (hw _ (ow 37 rfl))) (by decide) (t := .int) (t' := .int) (by decide) (by decide))))
      have c37 := (Fld.other W20 (Fld.other W15 (Fld.other W10 (Fld.other W5 F_last_a1 (Or.inr (slot_ne (Or.inl (hw _ (ow 41 rfl))) (Or.inl (hw _ (ow 18 rfl))) (by decide) (t := .int) (t' := (.array .int)) (by decide) (by decide)))) (Or.inr (slot_ne (Or.inl (hw _ (ow 41 rfl))) (Or.inl (hw _ (ow 33 rfl))) (by decide) (t := .int) (t' := .double) (by decide) (by decide)))) (Or.inr (slot_ne (Or.inl (hw _ (ow 41 rfl))) (Or.inl (hw _ (ow 35 rfl))) (by decide) (t := .int) (t' := .int) (by decide) (by decide)))) (Or.inr (slot_ne (Or.inl (hw _ (ow 41 rfl))) (Or.inl (hw _ (ow 37 rfl))) (by decide) (t := .int) (t' := .int) (by decide) (by decide))))
      have c38 := (Arv.other (Arv.other (Arv.other (Arv.other V_w_weights_a1 W5 (Ne.symm ne_a1_w_weights_a1)) W10 (Ne.symm ne_a1_w_weights_a1)) W15 (Ne.symm ne_a1_w_weights_a1)) W20 (Ne.symm ne_a1_w_weights_a1))
      exact ⟨_, ⟨_, _, _, w_suffix_a1, k_w_suffix_a1, NN, u0, u1, u2, u3, u4, rfl, own_more X23 (by decide) (by decide), e23, Nh21, K29, g_w_suffix_a1, Or.inl rfl, Or.inl (List.mem_of_getElem? (i := 1) rfl), ne_a1_w_suffix_a1, ne_w_weights_a1_w_suffix_a1, ne_a2_w_suffix_a1, hc27_30, (by unfold own_fN; rw [if_pos hc27_30]), c22, c24, c31, c32, c33, c34, Fw20, c35, c36, c37, c38, c26⟩, fun t k => k⟩
    · refine own_preJ (B := T23.setTop (mkF m 30 #[.val (.ref a1), .val (.ref a2), .val (.double d3), .second, .unset, .unset, .unset] [])) (fun t k => XS.icmpNo X23.here hx rfl (hb hby d4_27) rfl (flt hc27_30).2.2.1 k) ?_
      refine own_preJ (B := T23.setTop (mkF m 31 #[.val (.ref a1), .val (.ref a2), .val (.double d3), .second, .unset, .unset, .unset] [(.ref a1)])) (fun t k => XS.aloadN X23.here hx rfl (hb hby d4_30) rfl rfl k) ?_
      refine own_preJ (B := T23.setTop (mkF m 32 #[.val (.ref a1), .val (.ref a2), .val (.double d3), .second, .unset, .unset, .unset] [(.int (2 : Int32)), (.ref a1)])) (fun t k => XS.iconst X23.here hx rfl (hb hby d4_31) k) ?_
      refine own_preJ (B := T23.setTop (mkF m 33 #[.val (.ref a1), .val (.ref a2), .val (.double d3), .second, .unset, .unset, .unset] [(.ref a1), (.int (2 : Int32)), (.ref a1)])) (fun t k => XS.aloadN X23.here hx rfl (hb hby d4_32) rfl rfl k) ?_
      obtain ⟨T39, X39, e39, st39⟩ := getF X23 hx hZ hown (host := "") (Or.inl (hw _ (ow 19 rfl))) Via.refl e23 c22 (g := (mkF m 33 #[.val (.ref a1), .val (.ref a2), .val (.double d3), .second, .unset, .unset, .unset] [(.ref a1), (.int (2 : Int32)), (.ref a1)])) rfl rfl (hb hby d4_33)
      refine own_preJ (B := T39.setTop (mkF m 36 #[.val (.ref a1), .val (.ref a2), .val (.double d3), .second, .unset, .unset, .unset] [(.ref w_suffix_a1), (.int (2 : Int32)), (.ref a1)])) (fun t k => st39 t k) ?_
      obtain ⟨cl40, Ar40, -, S40, N40v, -, -⟩ := id c24
      refine own_preJ (B := T39.setTop (mkF m 37 #[.val (.ref a1), .val (.ref a2), .val (.double d3), .second, .unset, .unset, .unset] [(.int NN), (.int (2 : Int32)), (.ref a1)])) (fun t k => X39.arraylength hx (by rw [e39]; exact Ar40.1) (State.isArrayOf_alike hZ.alike Ar40.2.1) (g := (mkF m 36 #[.val (.ref a1), .val (.ref a2), .val (.double d3), .second, .unset, .unset, .unset] [(.ref w_suffix_a1), (.int (2 : Int32)), (.ref a1)])) rfl rfl (hb hby d4_36) t (by rw [len_of S40 N40v]; exact k)) ?_
      refine own_preJ (B := T39.setTop (mkF m 38 #[.val (.ref a1), .val (.ref a2), .val (.double d3), .second, .unset, .unset, .unset] [(.int ((2 : Int32) * NN)), (.ref a1)])) (fun t k => XS.imul X39.here hx rfl (hb hby d4_37) rfl k) ?_
      refine own_preJ (B := T39.setTop (mkF m 39 #[.val (.ref a1), .val (.ref a2), .val (.double d3), .second, .unset, .unset, .unset] [(.ref a2), (.int ((2 : Int32) * NN)), (.ref a1)])) (fun t k => XS.aloadN X39.here hx rfl (hb hby d4_38) rfl rfl k) ?_
      obtain ⟨cl41, Ar41, -, S41, N41v, -, -⟩ := id c26
      refine own_preJ (B := T39.setTop (mkF m 40 #[.val (.ref a1), .val (.ref a2), .val (.double d3), .second, .unset, .unset, .unset] [(.int nn), (.int ((2 : Int32) * NN)), (.ref a1)])) (fun t k => X39.arraylength hx (by rw [e39]; exact Ar41.1) (State.isArrayOf_alike hZ.alike Ar41.2.1) (g := (mkF m 39 #[.val (.ref a1), .val (.ref a2), .val (.double d3), .second, .unset, .unset, .unset] [(.ref a2), (.int ((2 : Int32) * NN)), (.ref a1)])) rfl rfl (hb hby d4_39) t (by rw [len_of S41 N41v]; exact k)) ?_
      refine own_preJ (B := T39.setTop (mkF m 41 #[.val (.ref a1), .val (.ref a2), .val (.double d3), .second, .unset, .unset, .unset] [(.int (1 : Int32)), (.int nn), (.int ((2 : Int32) * NN)), (.ref a1)])) (fun t k => XS.iconst X39.here hx rfl (hb hby d4_40) k) ?_
      refine own_preJ (B := T39.setTop (mkF m 42 #[.val (.ref a1), .val (.ref a2), .val (.double d3), .second, .unset, .unset, .unset] [(.int (nn + (1 : Int32))), (.int ((2 : Int32) * NN)), (.ref a1)])) (fun t k => XS.iadd X39.here hx rfl (hb hby d4_41) rfl k) ?_
      have sz42 : n0 ≤ h20.size := (Nat.le_trans (Nat.le_trans (Nat.le_trans (Nat.le_trans Z0 (Keep.of_wr W5).1) (Keep.of_wr W10).1) (Keep.of_wr W15).1) (Keep.of_wr W20).1)
      obtain ⟨_, _, ⟨T43, L43, k43, n43⟩, -, X43, ⟨Lc43, hQ43, l43, y43, z43⟩, st43⟩ := Jvm.LawKit.callS X39 hx (y := (⟨"java/lang/Math", "max", "(II)I"⟩ : MethodName)) hown (mvT hZ (hw _ (ow 45 rfl))) (mvT hZ (hw _ (ow 46 rfl))) (mvT hZ (hw _ (ow 47 rfl))) (mvT hZ (hw _ (ow 48 rfl))) (by decide) (backOf (W := 1) (rm6 l Z a0 hw [] ((2 : Int32) * NN) (nn + (1 : Int32)) h20 n0 sz42 ) hZ (hw _ (ow 48 rfl)) (hw _ (ow 47 rfl)) (by decide) (by decide)) (g := (mkF m 42 #[.val (.ref a1), .val (.ref a2), .val (.double d3), .second, .unset, .unset, .unset] [(.int (nn + (1 : Int32))), (.int ((2 : Int32) * NN)), (.ref a1)])) rfl (by rw [hml]; rfl) (argsL := [(.int ((2 : Int32) * NN)), (.int (nn + (1 : Int32)))]) (rest := [(.ref a1)]) (lenOf pd_0 rfl) rfl (by show 2 * 0 + _ ≤ _; exact Nat.le_of_eq rfl) (hb hby d4_42) (fun _ _ => ⟨rfl, e39, (by decide : 0 + 0 ≤ _), (by decide : 0 + 0 ≤ _)⟩)
      dsimp only [Pt.U, Pt.locs, Pt.cells, Pt.slots] at X43 l43 y43 z43 st43 hQ43
      subst l43 y43 z43
      obtain ⟨rfl, N43q, e43⟩ := hQ43
      have N43 := Fr.app Nh21 N43q
      obtain ⟨Lh44, Xh44, Nh44⟩ := own_hide X43 N43
      refine own_preJ (B := T43.setTop (mkF m 45 #[.val (.ref a1), .val (.ref a2), .val (.double d3), .second, .unset, .unset, .unset] [(.int (own_f6 ((2 : Int32) * NN) (nn + (1 : Int32)))), (.ref a1)])) (fun t k => st43 t k) ?_
      obtain ⟨T45, h45, k45, X45, e45, E45, A45, st45⟩ := newP Xh44 hx hZ (hw _ (ow 0 rfl)) e43 (g := (mkF m 45 #[.val (.ref a1), .val (.ref a2), .val (.double d3), .second, .unset, .unset, .unset] [(.int (own_f6 ((2 : Int32) * NN) (nn + (1 : Int32)))), (.ref a1)])) rfl (hb hby d4_45) rfl (own_M hn hN hc27_30).1 (cap := 8) (own_M hn hN hc27_30).2.1 (by decide) (by decide) (by decide)
      obtain ⟨b45, g45⟩ : ∃ z, z = h20.size := ⟨_, rfl⟩
      rw [← g45] at A45 st45
      have g_b45 : n0 ≤ b45 := Nat.le_trans sz42 (Nat.le_of_eq g45.symm)
      have s_b45 : h0.size ≤ b45 := Nat.le_trans K29.1 (Nat.le_of_eq g45.symm)
      have c46 := (Exa.wr W20 c17)
      have ne47 : a1 ≠ b45 := Nat.ne_of_lt (Nat.lt_of_lt_of_le (Exa.lt c46) (Nat.le_of_eq g45.symm))
      have ne48 : w_suffix_a1 ≠ b45 := Nat.ne_of_lt (Nat.lt_of_lt_of_le (Arv.lt c24) (Nat.le_of_eq g45.symm))
      have c49 := (Arv.other (Arv.other (Arv.other (Arv.other V_w_weights_a1 W5 (Ne.symm ne_a1_w_weights_a1)) W10 (Ne.symm ne_a1_w_weights_a1)) W15 (Ne.symm ne_a1_w_weights_a1)) W20 (Ne.symm ne_a1_w_weights_a1))
      have ne50 : w_weights_a1 ≠ b45 := Nat.ne_of_lt (Nat.lt_of_lt_of_le (Arv.lt c49) (Nat.le_of_eq g45.symm))
      have ne51 : a2 ≠ b45 := Nat.ne_of_lt (Nat.lt_of_lt_of_le (Arv.lt c26) (Nat.le_of_eq g45.symm))
      have V_b45 : Arv Z h45 b45 k45 .double (own_f6 ((2 : Int32) * NN) (nn + (1 : Int32))) [(.double (FP.l2d (0 : Int64))), (.double (FP.l2d (0 : Int64))), (.double (FP.l2d (0 : Int64))), (.double (FP.l2d (0 : Int64))), (.double (FP.l2d (0 : Int64)))] (.double (FP.l2d (0 : Int64))) := (Arv.newD A45 (own_M hn hN hc27_30).1).pad (pad_rep [] (.double (FP.l2d (0 : Int64))) 5)
      refine own_preJ (B := T45.setTop (mkF m 47 #[.val (.ref a1), .val (.ref a2), .val (.double d3), .second, .unset, .unset, .unset] [(.ref b45), (.ref a1)])) (fun t k => st45 t k) ?_
      have c52 := (c46.ext E45)
      have c53 := (c22.ext E45)
      have K54 : Keep h0 h45 [a1, w_suffix_a1] := (Keep.ext K29 E45)
      obtain ⟨T55, h55, X55, e55, W55, st55⟩ := putF X45 hx hZ hown (host := "") (Or.inl (hw _ (ow 19 rfl))) Via.refl e45 c53 c52 (Or.inl (hw _ (ow 20 rfl))) (hw _ (ow 9 rfl)) (ty := (.array .double)) (by decide) rfl rfl (g := (mkF m 47 #[.val (.ref a1), .val (.ref a2), .val (.double d3), .second, .unset, .unset, .unset] [(.ref b45), (.ref a1)])) rfl rfl (hb hby d4_47)
      have Fw55 := Fld.same W55 c53
      have N55 := Fr.snoc X55 Nh44 g_a1
      obtain ⟨Lh56, Xh56, Nh56⟩ := own_hide X55 N55
      refine own_preJ (B := T55.setTop (mkF m 50 #[.val (.ref a1), .val (.ref a2), .val (.double d3), .second, .unset, .unset, .unset] [])) (fun t k => st55 t k) ?_
      have K57 : Keep h0 h55 [a1, w_suffix_a1] := (Keep.wr K54 W55 (Or.inl (List.mem_of_getElem? (i := 0) rfl)))
      have c58 := (Arv.other V_b45 W55 (Ne.symm ne47))
      have c59 := (Exa.wr W55 c52)
      have c60 := (Fld.other W55 ((Fld.other W20 (Fld.other W15 (Fld.other W10 Fw5 (Or.inr (slot_ne (Or.inl (hw _ (ow 18 rfl))) (Or.inl (hw _ (ow 33 rfl))) (by decide) (t := (.array .int)) (t' := .double) (by decide) (by decide)))) (Or.inr (slot_ne (Or.inl (hw _ (ow 18 rfl))) (Or.inl (hw _ (ow 35 rfl))) (by decide) (t := (.array .int)) (t' := .int) (by decide) (by decide)))) (Or.inr (slot_ne (Or.inl (hw _ (ow 18 rfl))) (Or.inl (hw _ (ow 37 rfl))) (by decide) (t := (.array .int)) (t' := .int) (by decide) (by decide)))).ext E45) (Or.inr (slot_ne (Or.inl (hw _ (ow 18 rfl))) (Or.inl (hw _ (ow 20 rfl))) (by decide) (t := (.array .int)) (t' := (.array .double)) (by decide) (by decide))))
      have c61 := (Fld.other W55 ((Fld.other W20 (Fld.other W15 Fw10 (Or.inr (slot_ne (Or.inl (hw _ (ow 33 rfl))) (Or.inl (hw _ (ow 35 rfl))) (by decide) (t := .double) (t' := .int) (by decide) (by decide)))) (Or.inr (slot_ne (Or.inl (hw _ (ow 33 rfl))) (Or.inl (hw _ (ow 37 rfl))) (by decide) (t := .double) (t' := .int) (by decide) (by decide)))).ext E45) (Or.inr (slot_ne (Or.inl (hw _ (ow 33 rfl))) (Or.inl (hw _ (ow 20 rfl))) (by decide) (t := .double) (t' := (.array .double)) (by decide) (by decide))))
      have c62 := (Fld.other W55 ((Fld.other W20 Fw15 (Or.inr (slot_ne (Or.inl (hw _ (ow 35 rfl))) (Or.inl (hw _ (ow 37 rfl))) (by decide) (t := .int) (t' := .int) (by decide) (by decide)))).ext E45) (Or.inr (slot_ne (Or.inl (hw _ (ow 35 rfl))) (Or.inl (hw _ (ow 20 rfl))) (by decide) (t := .int) (t' := (.array .double)) (by decide) (by decide))))
      have c63 := (Fld.other W55 (Fw20.ext E45) (Or.inr (slot_ne (Or.inl (hw _ (ow 37 rfl))) (Or.inl (hw _ (ow 20 rfl))) (by decide) (t := .int) (t' := (.array .double)) (by decide) (by decide))))
      have c64 := (Fld.other W55 ((Fld.other W20 (Fld.other W15 (Fld.other W10 (Fld.other W5 F_weights_a1 (Or.inr (slot_ne (Or.inr (hw _ (ow 26 rfl))) (Or.inl (hw _ (ow 18 rfl))) (by decide) (t := (.array .double)) (t' := (.array .int)) (by decide) (by decide)))) (Or.inr (slot_ne (Or.inr (hw _ (ow 26 rfl))) (Or.inl (hw _ (ow 33 rfl))) (by decide) (t := (.array .double)) (t' := .double) (by decide) (by decide)))) (Or.inr (slot_ne (Or.inr (hw _ (ow 26 rfl))) (Or.inl (hw _ (ow 35 rfl))) (by decide) (t := (.array .double)) (t' := .int) (by decide) (by decide)))) (Or.inr (slot_ne (Or.inr (hw _ (ow 26 rfl))) (Or.inl (hw _ (ow 37 rfl))) (by decide) (t := (.array .double)) (t' := .int) (by decide) (by decide)))).ext E45) (Or.inr (slot_ne (Or.inr (hw _ (ow 26 rfl))) (Or.inl (hw _ (ow 20 rfl))) (by decide) (t := (.array .double)) (t' := (.array .double)) (by decide) (by decide))))
      have c65 := (Fld.other W55 ((Fld.other W20 (Fld.other W15 (Fld.other W10 (Fld.other W5 F_firstLast_a1 (Or.inr (slot_ne (Or.inl (hw _ (ow 39 rfl))) (Or.inl (hw _ (ow 18 rfl))) (by decide) (t := .int) (t' := (.array .int)) (by decide) (by decide)))) (Or.inr (slot_ne (Or.inl (hw _ (ow 39 rfl))) (Or.inl (hw _ (ow 33 rfl))) (by decide) (t := .int) (t' := .double) (by decide) (by decide)))) (Or.inr (slot_ne (Or.inl (hw _ (ow 39 rfl))) (Or.inl (hw _ (ow 35 rfl))) (by decide) (t := .int) (t' := .int) (by decide) (by decide)))) (Or.inr (slot_ne (Or.inl (hw _ (ow 39 rfl))) (Or.inl (hw _ (ow 37 rfl))) (by decide) (t := .int) (t' := .int) (by decide) (by decide)))).ext E45) (Or.inr (slot_ne (Or.inl (hw _ (ow 39 rfl))) (Or.inl (hw _ (ow 20 rfl))) (by decide) (t := .int) (t' := (.array .double)) (by decide) (by decide))))
      have c66 := (Fld.other W55 ((Fld.other W20 (Fld.other W15 (Fld.other W10 (Fld.other W5 F_last_a1 (Or.inr (slot_ne (Or.inl (hw _ (ow 41 rfl))) (Or.inl (hw _ (ow 18 rfl))) (by decide) (t := .int) (t' := (.array .int)) (by decide) (by decide)))) (Or.inr (slot_ne (Or.inl (hw _ (ow 41 rfl))) (Or.inl (hw _ (ow 33 rfl))) (by decide) (t := .int) (t' := .double) (by decide) (by decide)))) (Or.inr (slot_ne (Or.inl (hw _ (ow 41 rfl))) (Or.inl (hw _ (ow 35 rfl))) (by decide) (t := .int) (t' := .int) (by decide) (by decide)))) (Or.inr (slot_ne (Or.inl (hw _ (ow 41 rfl))) (Or.inl (hw _ (ow 37 rfl))) (by decide) (t := .int) (t' := .int) (by decide) (by decide)))).ext E45) (Or.inr (slot_ne (Or.inl (hw _ (ow 41 rfl))) (Or.inl (hw _ (ow 20 rfl))) (by decide) (t := .int) (t' := (.array .double)) (by decide) (by decide))))
      have c67 := (Arv.other (Arv.ext c49 E45) W55 (Ne.symm ne_a1_w_weights_a1))
      have c68 := (Arv.other (Arv.ext c26 E45) W55 (Ne.symm ne_a1_a2))
      exact ⟨_, ⟨_, _, _, b45, k45, (own_f6 ((2 : Int32) * NN) (nn + (1 : Int32))), (FP.l2d (0 : Int64)), (FP.l2d (0 : Int64)), (FP.l2d (0 : Int64)), (FP.l2d (0 : Int64)), (FP.l2d (0 : Int64)), rfl, own_more Xh56 (by decide) (by decide), e55, Nh56, K57, g_b45, Or.inr s_b45, Or.inr s_b45, ne47, ne50, ne51, (own_M hn hN hc27_30).2.2, (by unfold own_fN; rw [if_neg hc27_30]), Fw55, c58, c59, c60, c61, c62, c63, c64, c65, c66, c67, c68⟩, fun t k => k⟩
  refine own_pre (B := T28.setTop (mkF m 50 #[.val (.ref a1), .val (.ref a2), .val (.double d3), .second, .unset, .unset, .unset] [])) (fun t k => st28 t k) ?_
  rcases own_five hn with rfl | rfl | rfl | rfl | rfl
  · have hR_ := hR0
    refine own_pre (B := T28.setTop (mkF m 51 #[.val (.ref a1), .val (.ref a2), .val (.double d3), .second, .unset, .unset, .unset] [(.ref a2)])) (fun t k => XS.aloadN X28.here hx rfl (hb hby d4_50) rfl rfl k) ?_
    obtain ⟨cl69, Ar69, -, S69, N69v, -, -⟩ := id j28_9
    refine own_pre (B := T28.setTop (mkF m 52 #[.val (.ref a1), .val (.ref a2), .val (.double d3), .second, .unset, .unset, .unset] [(.int (0 : Int32))])) (fun t k => X28.arraylength hx (by rw [e28]; exact Ar69.1) (State.isArrayOf_alike hZ.alike Ar69.2.1) (g := (mkF m 51 #[.val (.ref a1), .val (.ref a2), .val (.double d3), .second, .unset, .unset, .unset] [(.ref a2)])) rfl rfl (hb hby d4_51) t (by rw [len_of S69 N69v]; exact k)) ?_
    refine own_pre (B := T28.setTop (mkF m 54 #[.val (.ref a1), .val (.ref a2), .val (.double d3), .second, .val (.int (0 : Int32)), .unset, .unset] [])) (fun t k => XS.istore X28.here hx rfl (hb hby d4_52) rfl (l' := #[.val (.ref a1), .val (.ref a2), .val (.double d3), .second, .val (.int (0 : Int32)), .unset, .unset]) rfl k) ?_
    refine own_pre (B := T28.setTop (mkF m 55 #[.val (.ref a1), .val (.ref a2), .val (.double d3), .second, .val (.int (0 : Int32)), .unset, .unset] [(.ref a1)])) (fun t k => XS.aloadN X28.here hx rfl (hb hby d4_54) rfl rfl k) ?_
    obtain ⟨T70, X70, e70, st70⟩ := getF X28 hx hZ hown (host := "") (Or.inl (hw _ (ow 19 rfl))) Via.refl e28 Fsx (g := (mkF m 55 #[.val (.ref a1), .val (.ref a2), .val (.double d3), .second, .val (.int (0 : Int32)), .unset, .unset] [(.ref a1)])) rfl rfl (hb hby d4_55)
    refine own_pre (B := T70.setTop (mkF m 58 #[.val (.ref a1), .val (.ref a2), .val (.double d3), .second, .val (.int (0 : Int32)), .unset, .unset] [(.ref sx)])) (fun t k => st70 t k) ?_
    refine own_pre (B := T70.setTop (mkF m 60 #[.val (.ref a1), .val (.ref a2), .val (.double d3), .second, .val (.int (0 : Int32)), .unset, .unset] [(.int (0 : Int32)), (.ref sx)])) (fun t k => XS.iload X70.here hx rfl (hb hby d4_58) rfl k) ?_
    refine own_pre (B := T70.setTop (mkF m 61 #[.val (.ref a1), .val (.ref a2), .val (.double d3), .second, .val (.int (0 : Int32)), .unset, .unset] [(.double (FP.l2d (0 : Int64))), (.int (0 : Int32)), (.ref sx)])) (fun t k => XS.dconst0 X70.here hx rfl (hb hby d4_60) own_dc0 k) ?_
    obtain ⟨cl71, Ar71, q71, S71, N71v, H71v, G71v⟩ := Vsx
    have Vsx : Arv Z h28 sx kx .double nx [(.double x0), (.double x1), (.double x2), (.double x3), (.double x4)] (.double (FP.l2d (0 : Int64))) := ⟨cl71, Ar71, q71, S71, N71v, H71v, G71v⟩
    have hin71 : ¬ ((0 : Int32) < 0 ∨ cl71.slots.size ≤ ((0 : Int32)).toNatClampNeg) := inb_of S71 ⟨by decide, own_ltle hlt (by decide)⟩
    obtain ⟨T72, h72, X72, e72, W72, st72⟩ := stD X70 hx hZ e70 Ar71 (j := (0 : Int32)) hin71 (g := (mkF m 61 #[.val (.ref a1), .val (.ref a2), .val (.double d3), .second, .val (.int (0 : Int32)), .unset, .unset] [(.double (FP.l2d (0 : Int64))), (.int (0 : Int32)), (.ref sx)])) rfl rfl (hb hby d4_61)
    have V72 : Arv Z h72 sx kx .double nx [(.double (FP.l2d (0 : Int64))), (.double x1), (.double x2), (.double x3), (.double x4)] (.double (FP.l2d (0 : Int64))) := Arv.set Ar71 q71 S71 N71v H71v G71v rfl W72 0 rfl (Nat.le_of_ble_eq_true rfl)
    have N72 := Fr.snoc X72 N28 gsx
    obtain ⟨Lh73, Xh73, Nh73⟩ := own_hide X72 N72
    refine own_pre (B := T72.setTop (mkF m 62 #[.val (.ref a1), .val (.ref a2), .val (.double d3), .second, .val (.int (0 : Int32)), .unset, .unset] [])) (fun t k => st72 t k) ?_
    refine own_pre (B := T72.setTop (mkF m 63 #[.val (.ref a1), .val (.ref a2), .val (.double d3), .second, .val (.int (0 : Int32)), .unset, .unset] [(.double d3)])) (fun t k => XS.dloadN Xh73.here hx rfl (hb hby d4_62) rfl k) ?_
    refine own_pre (B := T72.setTop (mkF m 64 #[.val (.ref a1), .val (.ref a2), .val (.double d3), .second, .val (.int (0 : Int32)), .unset, .unset] [(.double (FP.l2d (0 : Int64))), (.double d3)])) (fun t k => XS.dconst0 Xh73.here hx rfl (hb hby d4_63) own_dc0 k) ?_
    refine own_pre (B := T72.setTop (mkF m 65 #[.val (.ref a1), .val (.ref a2), .val (.double d3), .second, .val (.int (0 : Int32)), .unset, .unset] [(.int (lcmpW kq (0 : Int64)))])) (fun t k => XS.dcmpS Xh73.here hx rfl (hb hby d4_64) rfl (own_cmp0d hd hk _) k) ?_
    have K75 : Keep h0 h72 [a1, w_suffix_a1] := (Keep.wr K28j W72 msx)
    obtain ⟨_, ⟨T74, h74, L74, rfl, X74, e74, N74, K74j, j74_0, j74_1, j74_2, j74_3, j74_4, j74_5, j74_6, j74_7, j74_8, j74_9, j74_10, j74_11⟩, st74⟩ : own_J p.tables e below (fun B => ∃ (T' : State) (h' : Heap) (L' : List Loc), B = T'.setTop (mkF m 121 #[.val (.ref a1), .val (.ref a2), .val (.double d3), .second, .val (.int (0 : Int32)), .unset, .unset] []) ∧ Stand p l e ({ frames := 1, cells := 1, slots := 8, locals := 14 } : Room) s m #[(.ref a1), (.ref a2), (.double d3)] below meth c T' L' 1 8 ∧ T'.heap = h' ∧ Fr n0 L' ∧ Keep h0 h' [a1, w_suffix_a1] ∧ Exa Z h' a1 "com/example/nearjoin/nearjoin/join/PrefixCut" ∧ Fld Z h' a1 "com/example/nearjoin/nearjoin/join/PrefixCut" "bag" "[I" (.ref a2) ∧ Fld Z h' a1 "com/example/nearjoin/nearjoin/join/PrefixCut" "least" "D" (.double d3) ∧ Fld Z h' a1 "com/example/nearjoin/nearjoin/join/PrefixCut" "heavyCount" "I" (.int (-1 : Int32)) ∧ Fld Z h' a1 "com/example/nearjoin/nearjoin/join/PrefixCut" "lastLevel" "I" (.int (1 : Int32)) ∧ Fld Z h' a1 "com/example/nearjoin/nearjoin/join/PrefixCut" "weights" "[D" (.ref w_weights_a1) ∧ Fld Z h' a1 "com/example/nearjoin/nearjoin/join/PrefixCut" "firstLast" "I" (.int w_firstLast_a1) ∧ Fld Z h' a1 "com/example/nearjoin/nearjoin/join/PrefixCut" "last" "I" (.int w_last_a1) ∧ Fld Z h' a1 "com/example/nearjoin/nearjoin/join/PrefixCut" "suffix" "[D" (.ref sx) ∧ Arv Z h' w_weights_a1 k_w_weights_a1 .double (8 : Int32) [(.double (FP.l2d w0)), (.double (FP.l2d w1)), (.double (FP.l2d w2)), (.double (FP.l2d w3)), (.double (FP.l2d w4)), (.double (FP.l2d w5)), (.double (FP.l2d w6)), (.double (FP.l2d w7))] (.double (FP.l2d (0 : Int64))) ∧ Arv Z h' a2 k_a2 .int (0 : Int32) [(.int r0), (.int r1), (.int r2), (.int r3)] (.int (0 : Int32)) ∧ Arv Z h' sx kx .double nx [(.double (FP.l2d (0 : Int64))), (.double x1), (.double x2), (.double x3), (.double x4)] (.double (FP.l2d (0 : Int64)))) (T72.setTop (mkF m 65 #[.val (.ref a1), .val (.ref a2), .val (.double d3), .second, .val (.int (0 : Int32)), .unset, .unset] [(.int (lcmpW kq (0 : Int64)))])) := by
      by_cases hc65_76 : (0 : Int64) < kq
      · refine own_preJ (B := T72.setTop (mkF m 68 #[.val (.ref a1), .val (.ref a2), .val (.double d3), .second, .val (.int (0 : Int32)), .unset, .unset] [])) (fun t k => XS.ifNo Xh73.here hx rfl (hb hby d4_65) rfl ((if0 _ _).trans (tlt ((lw_gt kq (0 : Int64)).mpr hc65_76)).2.2.2) k) ?_
        refine own_preJ (B := T72.setTop (mkF m 70 #[.val (.ref a1), .val (.ref a2), .val (.double d3), .second, .val (.int (0 : Int32)), .unset, .unset] [(.int (0 : Int32))])) (fun t k => XS.iload Xh73.here hx rfl (hb hby d4_68) rfl k) ?_
        refine own_preJ (B := T72.setTop (mkF m 121 #[.val (.ref a1), .val (.ref a2), .val (.double d3), .second, .val (.int (0 : Int32)), .unset, .unset] [])) (fun t k => XS.ifYes Xh73.here hx rfl (pc0 := 70) (pc' := 121) rfl (hb hby d4_70) rfl ((if0 _ _).trans (flt (by decide : ¬ ((0 : Int32) < (0 : Int32)))).2.2.2) (by decide) (by decide) k) ?_
        have c77 := (Exa.wr W72 j28_0)
        have c78 := (Fld.other W72 j28_1 (Or.inl nesx0))
        have c79 := (Fld.other W72 j28_2 (Or.inl nesx0))
        have c80 := (Fld.other W72 j28_3 (Or.inl nesx0))
        have c81 := (Fld.other W72 j28_4 (Or.inl nesx0))
        have c82 := (Fld.other W72 j28_5 (Or.inl nesx0))
        have c83 := (Fld.other W72 j28_6 (Or.inl nesx0))
        have c84 := (Fld.other W72 j28_7 (Or.inl nesx0))
        have c85 := (Fld.other W72 Fsx (Or.inl nesx0))
        have c86 := (Arv.other j28_8 W72 nesx1)
        have c87 := (Arv.other j28_9 W72 nesx2)
        exact ⟨_, ⟨_, _, _, rfl, own_more Xh73 (by decide) (by decide), e72, Nh73, K75, c77, c78, c79, c80, c81, c82, c83, c84, c85, c86, c87, V72⟩, fun t k => k⟩
      · refine own_preJ (B := T72.setTop (mkF m 121 #[.val (.ref a1), .val (.ref a2), .val (.double d3), .second, .val (.int (0 : Int32)), .unset, .unset] [])) (fun t k => XS.ifYes Xh73.here hx rfl (pc0 := 65) (pc' := 121) rfl (hb hby d4_65) rfl ((if0 _ _).trans (flt (mt (lw_gt kq (0 : Int64)).mp hc65_76)).2.2.2) (by decide) (by decide) k) ?_
        have c88 := (Exa.wr W72 j28_0)
        have c89 := (Fld.other W72 j28_1 (Or.inl nesx0))
        have c90 := (Fld.other W72 j28_2 (Or.inl nesx0))
        have c91 := (Fld.other W72 j28_3 (Or.inl nesx0))
        have c92 := (Fld.other W72 j28_4 (Or.inl nesx0))
        have c93 := (Fld.other W72 j28_5 (Or.inl nesx0))
        have c94 := (Fld.other W72 j28_6 (Or.inl nesx0))
        have c95 := (Fld.other W72 j28_7 (Or.inl nesx0))
        have c96 := (Fld.other W72 Fsx (Or.inl nesx0))
        have c97 := (Arv.other j28_8 W72 nesx1)
        have c98 := (Arv.other j28_9 W72 nesx2)
        exact ⟨_, ⟨_, _, _, rfl, own_more Xh73 (by decide) (by decide), e72, Nh73, K75, c88, c89, c90, c91, c92, c93, c94, c95, c96, c97, c98, V72⟩, fun t k => k⟩
    refine own_pre (B := T74.setTop (mkF m 121 #[.val (.ref a1), .val (.ref a2), .val (.double d3), .second, .val (.int (0 : Int32)), .unset, .unset] [])) (fun t k => st74 t k) ?_
    refine own_pre (B := T74.setTop (mkF m 122 #[.val (.ref a1), .val (.ref a2), .val (.double d3), .second, .val (.int (0 : Int32)), .unset, .unset] [(.ref a1)])) (fun t k => XS.aloadN X74.here hx rfl (hb hby d4_121) rfl rfl k) ?_
    refine own_pre (B := T74.setTop (mkF m 124 #[.val (.ref a1), .val (.ref a2), .val (.double d3), .second, .val (.int (0 : Int32)), .unset, .unset] [(.int (0 : Int32)), (.ref a1)])) (fun t k => XS.iload X74.here hx rfl (hb hby d4_122) rfl k) ?_
    refine own_pre (B := T74.setTop (mkF m 125 #[.val (.ref a1), .val (.ref a2), .val (.double d3), .second, .val (.int (0 : Int32)), .unset, .unset] [(.int (1 : Int32)), (.int (0 : Int32)), (.ref a1)])) (fun t k => XS.iconst X74.here hx rfl (hb hby d4_124) k) ?_
    refine own_pre (B := T74.setTop (mkF m 126 #[.val (.ref a1), .val (.ref a2), .val (.double d3), .second, .val (.int (0 : Int32)), .unset, .unset] [(.int (-1 : Int32)), (.ref a1)])) (fun t k => XS.isub X74.here hx rfl (hb hby d4_125) rfl k) ?_
    obtain ⟨T99, h99, X99, e99, W99, st99⟩ := putF X74 hx hZ hown (host := "") (Or.inl (hw _ (ow 38 rfl))) Via.refl e74 j74_6 j74_0 (Or.inl (hw _ (ow 39 rfl))) (hw _ (ow 9 rfl)) (ty := .int) (by decide) rfl rfl (g := (mkF m 126 #[.val (.ref a1), .val (.ref a2), .val (.double d3), .second, .val (.int (0 : Int32)), .unset, .unset] [(.int (-1 : Int32)), (.ref a1)])) rfl rfl (hb hby d4_126)
    have Fw99 := Fld.same W99 j74_6
    have N99 := Fr.snoc X99 N74 g_a1
    obtain ⟨Lh100, Xh100, Nh100⟩ := own_hide X99 N99
    refine own_pre (B := T99.setTop (mkF m 129 #[.val (.ref a1), .val (.ref a2), .val (.double d3), .second, .val (.int (0 : Int32)), .unset, .unset] [])) (fun t k => st99 t k) ?_
    refine own_pre (B := T99.setTop (mkF m 130 #[.val (.ref a1), .val (.ref a2), .val (.double d3), .second, .val (.int (0 : Int32)), .unset, .unset] [(.ref a1)])) (fun t k => XS.aloadN Xh100.here hx rfl (hb hby d4_129) rfl rfl k) ?_
    refine own_pre (B := T99.setTop (mkF m 131 #[.val (.ref a1), .val (.ref a2), .val (.double d3), .second, .val (.int (0 : Int32)), .unset, .unset] [(.ref a1), (.ref a1)])) (fun t k => XS.aloadN Xh100.here hx rfl (hb hby d4_130) rfl rfl k) ?_
    obtain ⟨T101, X101, e101, st101⟩ := getF Xh100 hx hZ hown (host := "") (Or.inl (hw _ (ow 38 rfl))) Via.refl e99 Fw99 (g := (mkF m 131 #[.val (.ref a1), .val (.ref a2), .val (.double d3), .second, .val (.int (0 : Int32)), .unset, .unset] [(.ref a1), (.ref a1)])) rfl rfl (hb hby d4_131)
    refine own_pre (B := T101.setTop (mkF m 134 #[.val (.ref a1), .val (.ref a2), .val (.double d3), .second, .val (.int (0 : Int32)), .unset, .unset] [(.int (-1 : Int32)), (.ref a1)])) (fun t k => st101 t k) ?_
    have c102 := (Exa.wr W99 j74_0)
    have c103 := (Fld.other W99 j74_7 (Or.inr (slot_ne (Or.inl (hw _ (ow 41 rfl))) (Or.inl (hw _ (ow 39 rfl))) (by decide) (t := .int) (t' := .int) (by decide) (by decide))))
    have K104 : Keep h0 h99 [a1, w_suffix_a1] := (Keep.wr K74j W99 (Or.inl (List.mem_of_getElem? (i := 0) rfl)))
    obtain ⟨T105, h105, X105, e105, W105, st105⟩ := putF X101 hx hZ hown (host := "") (Or.inl (hw _ (ow 40 rfl))) Via.refl e101 c103 c102 (Or.inl (hw _ (ow 41 rfl))) (hw _ (ow 9 rfl)) (ty := .int) (by decide) rfl rfl (g := (mkF m 134 #[.val (.ref a1), .val (.ref a2), .val (.double d3), .second, .val (.int (0 : Int32)), .unset, .unset] [(.int (-1 : Int32)), (.ref a1)])) rfl rfl (hb hby d4_134)
    have Fw105 := Fld.same W105 c103
    have N105 := Fr.snoc X105 Nh100 g_a1
    obtain ⟨Lh106, Xh106, Nh106⟩ := own_hide X105 N105
    refine own_pre (B := T105.setTop (mkF m 137 #[.val (.ref a1), .val (.ref a2), .val (.double d3), .second, .val (.int (0 : Int32)), .unset, .unset] [])) (fun t k => st105 t k) ?_
    refine own_pre (B := T105.setTop (mkF m 139 #[.val (.ref a1), .val (.ref a2), .val (.double d3), .second, .val (.int (0 : Int32)), .unset, .unset] [(.int (0 : Int32))])) (fun t k => XS.iload Xh106.here hx rfl (hb hby d4_137) rfl k) ?_
    have K107 : Keep h0 h105 [a1, w_suffix_a1] := (Keep.wr K104 W105 (Or.inl (List.mem_of_getElem? (i := 0) rfl)))
    have c108 := (Exa.wr W105 c102)
    have c109 := (Arv.other (Arv.other j74_11 W99 (Ne.symm nesx0)) W105 (Ne.symm nesx0))
    have c110 := (Fld.other W105 (Fld.other W99 j74_1 (Or.inr (slot_ne (Or.inl (hw _ (ow 18 rfl))) (Or.inl (hw _ (ow 39 rfl))) (by decide) (t := (.array .int)) (t' := .int) (by decide) (by decide)))) (Or.inr (slot_ne (Or.inl (hw _ (ow 18 rfl))) (Or.inl (hw _ (ow 41 rfl))) (by decide) (t := (.array .int)) (t' := .int) (by decide) (by decide))))
    have c111 := (Fld.other W105 (Fld.other W99 j74_2 (Or.inr (slot_ne (Or.inl (hw _ (ow 33 rfl))) (Or.inl (hw _ (ow 39 rfl))) (by decide) (t := .double) (t' := .int) (by decide) (by decide)))) (Or.inr (slot_ne (Or.inl (hw _ (ow 33 rfl))) (Or.inl (hw _ (ow 41 rfl))) (by decide) (t := .double) (t' := .int) (by decide) (by decide))))
    have c112 := (Fld.other W105 (Fld.other W99 j74_3 (Or.inr (slot_ne (Or.inl (hw _ (ow 35 rfl))) (Or.inl (hw _ (ow 39 rfl))) (by decide) (t := .int) (t' := .int) (by decide) (by decide)))) (Or.inr (slot_ne (Or.inl (hw _ (ow 35 rfl))) (Or.inl (hw _ (ow 41 rfl))) (by decide) (t := .int) (t' := .int) (by decide) (by decide))))
    have c113 := (Fld.other W105 (Fld.other W99 j74_4 (Or.inr (slot_ne (Or.inl (hw _ (ow 37 rfl))) (Or.inl (hw _ (ow 39 rfl))) (by decide) (t := .int) (t' := .int) (by decide) (by decide)))) (Or.inr (slot_ne (Or.inl (hw _ (ow 37 rfl))) (Or.inl (hw _ (ow 41 rfl))) (by decide) (t := .int) (t' := .int) (by decide) (by decide))))
    have c114 := (Fld.other W105 (Fld.other W99 j74_8 (Or.inr (slot_ne (Or.inl (hw _ (ow 20 rfl))) (Or.inl (hw _ (ow 39 rfl))) (by decide) (t := (.array .double)) (t' := .int) (by decide) (by decide)))) (Or.inr (slot_ne (Or.inl (hw _ (ow 20 rfl))) (Or.inl (hw _ (ow 41 rfl))) (by decide) (t := (.array .double)) (t' := .int) (by decide) (by decide))))
    have c115 := (Fld.other W105 (Fld.other W99 j74_5 (Or.inr (slot_ne (Or.inr (hw _ (ow 26 rfl))) (Or.inl (hw _ (ow 39 rfl))) (by decide) (t := (.array .double)) (t' := .int) (by decide) (by decide)))) (Or.inr (slot_ne (Or.inr (hw _ (ow 26 rfl))) (Or.inl (hw _ (ow 41 rfl))) (by decide) (t := (.array .double)) (t' := .int) (by decide) (by decide))))
    have c116 := (Fld.other W105 Fw99 (Or.inr (slot_ne (Or.inl (hw _ (ow 39 rfl))) (Or.inl (hw _ (ow 41 rfl))) (by decide) (t := .int) (t' := .int) (by decide) (by decide))))
    obtain ⟨fsr117, hrr117, hrunr117, hendedr117, hWr117, hsamer117⟩ := Xh106.leave (v := some (.int (0 : Int32))) (fun h => by rw [Bd.returns] at h; cases h)
    refine ⟨_, _, (retI Xh106 hx Bd.returns (hb hby d4_139) hrr117), hrunr117, hendedr117, _, _, rfl, ?_, ⟨_, rfl⟩, hWr117, hsamer117.mono (by decide) (by decide)⟩
    show Q4 Z a1 a2 d3 w_suffix_a1 w_weights_a1 k_w_suffix_a1 NN u0 u1 u2 u3 u4 k_w_weights_a1 w0 w1 w2 w3 w4 w5 w6 w7 k_a2 (0 : Int32) r0 r1 r2 r3 kq ve0 ve1 ve2 ve3 w_firstLast_a1 w_last_a1 u_bag_a1 u_least_a1 u_heavyCount_a1 u_lastLevel_a1 h0 n0 _ T105.heap _
    rw [e105]
    exact ⟨sx, kx, nx, (FP.l2d (0 : Int64)), x1, x2, x3, x4, (-1 : Int32), (-1 : Int32), (by rw [own_f4_0]), Nh106, K107, gsx, osx, hnx, c108, c110, c111, c112, c113, c114, c115, c116, Fw105, c109⟩
  · have hR_ := hR0
    refine own_pre (B := T28.setTop (mkF m 51 #[.val (.ref a1), .val (.ref a2), .val (.double d3), .second, .unset, .unset, .unset] [(.ref a2)])) (fun t k => XS.aloadN X28.here hx rfl (hb hby d4_50) rfl rfl k) ?_
    obtain ⟨cl118, Ar118, -, S118, N118v, -, -⟩ := id j28_9
    refine own_pre (B := T28.setTop (mkF m 52 #[.val (.ref a1), .val (.ref a2), .val (.double d3), .second, .unset, .unset, .unset] [(.int (1 : Int32))])) (fun t k => X28.arraylength hx (by rw [e28]; exact Ar118.1) (State.isArrayOf_alike hZ.alike Ar118.2.1) (g := (mkF m 51 #[.val (.ref a1), .val (.ref a2), .val (.double d3), .second, .unset, .unset, .unset] [(.ref a2)])) rfl rfl (hb hby d4_51) t (by rw [len_of S118 N118v]; exact k)) ?_
    refine own_pre (B := T28.setTop (mkF m 54 #[.val (.ref a1), .val (.ref a2), .val (.double d3), .second, .val (.int (1 : Int32)), .unset, .unset] [])) (fun t k => XS.istore X28.here hx rfl (hb hby d4_52) rfl (l' := #[.val (.ref a1), .val (.ref a2), .val (.double d3), .second, .val (.int (1 : Int32)), .unset, .unset]) rfl k) ?_
    refine own_pre (B := T28.setTop (mkF m 55 #[.val (.ref a1), .val (.ref a2), .val (.double d3), .second, .val (.int (1 : Int32)), .unset, .unset] [(.ref a1)])) (fun t k => XS.aloadN X28.here hx rfl (hb hby d4_54) rfl rfl k) ?_
    obtain ⟨T119, X119, e119, st119⟩ := getF X28 hx hZ hown (host := "") (Or.inl (hw _ (ow 19 rfl))) Via.refl e28 Fsx (g := (mkF m 55 #[.val (.ref a1), .val (.ref a2), .val (.double d3), .second, .val (.int (1 : Int32)), .unset, .unset] [(.ref a1)])) rfl rfl (hb hby d4_55)
    refine own_pre (B := T119.setTop (mkF m 58 #[.val (.ref a1), .val (.ref a2), .val (.double d3), .second, .val (.int (1 : Int32)), .unset, .unset] [(.ref sx)])) (fun t k => st119 t k) ?_
    refine own_pre (B := T119.setTop (mkF m 60 #[.val (.ref a1), .val (.ref a2), .val (.double d3), .second, .val (.int (1 : Int32)), .unset, .unset] [(.int (1 : Int32)), (.ref sx)])) (fun t k => XS.iload X119.here hx rfl (hb hby d4_58) rfl k) ?_
    refine own_pre (B := T119.setTop (mkF m 61 #[.val (.ref a1), .val (.ref a2), .val (.double d3), .second, .val (.int (1 : Int32)), .unset, .unset] [(.double (FP.l2d (0 : Int64))), (.int (1 : Int32)), (.ref sx)])) (fun t k => XS.dconst0 X119.here hx rfl (hb hby d4_60) own_dc0 k) ?_
    obtain ⟨cl120, Ar120, q120, S120, N120v, H120v, G120v⟩ := Vsx
    have Vsx : Arv Z h28 sx kx .double nx [(.double x0), (.double x1), (.double x2), (.double x3), (.double x4)] (.double (FP.l2d (0 : Int64))) := ⟨cl120, Ar120, q120, S120, N120v, H120v, G120v⟩
    have hin120 : ¬ ((1 : Int32) < 0 ∨ cl120.slots.size ≤ ((1 : Int32)).toNatClampNeg) := inb_of S120 ⟨by decide, own_ltle hlt (by decide)⟩
    obtain ⟨T121, h121, X121, e121, W121, st121⟩ := stD X119 hx hZ e119 Ar120 (j := (1 : Int32)) hin120 (g := (mkF m 61 #[.val (.ref a1), .val (.ref a2), .val (.double d3), .second, .val (.int (1 : Int32)), .unset, .unset] [(.double (FP.l2d (0 : Int64))), (.int (1 : Int32)), (.ref sx)])) rfl rfl (hb hby d4_61)
    have V121 : Arv Z h121 sx kx .double nx [(.double x0), (.double (FP.l2d (0 : Int64))), (.double x2), (.double x3), (.double x4)] (.double (FP.l2d (0 : Int64))) := Arv.set Ar120 q120 S120 N120v H120v G120v rfl W121 1 rfl (Nat.le_of_ble_eq_true rfl)
    have N121 := Fr.snoc X121 N28 gsx
    obtain ⟨Lh122, Xh122, Nh122⟩ := own_hide X121 N121
    refine own_pre (B := T121.setTop (mkF m 62 #[.val (.ref a1), .val (.ref a2), .val (.double d3), .second, .val (.int (1 : Int32)), .unset, .unset] [])) (fun t k => st121 t k) ?_
    refine own_pre (B := T121.setTop (mkF m 63 #[.val (.ref a1), .val (.ref a2), .val (.double d3), .second, .val (.int (1 : Int32)), .unset, .unset] [(.double d3)])) (fun t k => XS.dloadN Xh122.here hx rfl (hb hby d4_62) rfl k) ?_
    refine own_pre (B := T121.setTop (mkF m 64 #[.val (.ref a1), .val (.ref a2), .val (.double d3), .second, .val (.int (1 : Int32)), .unset, .unset] [(.double (FP.l2d (0 : Int64))), (.double d3)])) (fun t k => XS.dconst0 Xh122.here hx rfl (hb hby d4_63) own_dc0 k) ?_
    refine own_pre (B := T121.setTop (mkF m 65 #[.val (.ref a1), .val (.ref a2), .val (.double d3), .second, .val (.int (1 : Int32)), .unset, .unset] [(.int (lcmpW kq (0 : Int64)))])) (fun t k => XS.dcmpS Xh122.here hx rfl (hb hby d4_64) rfl (own_cmp0d hd hk _) k) ?_
    obtain ⟨z123, hz123⟩ : ∃ z : Int32, z = (if (0 : Int64) < kq then (if (((0 : Int64) + ve0) + ((0 : Int64) + ve0)) < kq then (0 : Int32) else (1 : Int32)) else (1 : Int32)) := ⟨_, rfl⟩
    obtain ⟨z126, hz126⟩ : ∃ z : UInt64, z = (if (0 : Int64) < kq then (if (((0 : Int64) + ve0) + ((0 : Int64) + ve0)) < kq then (FP.l2d ((0 : Int64) + ve0)) else (FP.l2d ((0 : Int64) + ve0))) else x0) := ⟨_, rfl⟩
    have K128 : Keep h0 h121 [a1, w_suffix_a1] := (Keep.wr K28j W121 msx)
    obtain ⟨_, ⟨T127, h127, L127, sl124, sl125, rfl, X127, e127, N127, K127j, j127_0, j127_1, j127_2, j127_3, j127_4, j127_5, j127_6, j127_7, j127_8, j127_9, j127_10, j127_11⟩, st127⟩ : own_J p.tables e below (fun B => ∃ (T' : State) (h' : Heap) (L' : List Loc) (sl124 sl125 : Slot), B = T'.setTop (mkF m 121 #[.val (.ref a1), .val (.ref a2), .val (.double d3), .second, .val (.int z123), sl124, sl125] []) ∧ Stand p l e ({ frames := 1, cells := 1, slots := 8, locals := 14 } : Room) s m #[(.ref a1), (.ref a2), (.double d3)] below meth c T' L' 1 8 ∧ T'.heap = h' ∧ Fr n0 L' ∧ Keep h0 h' [a1, w_suffix_a1] ∧ Exa Z h' a1 "com/example/nearjoin/nearjoin/join/PrefixCut" ∧ Fld Z h' a1 "com/example/nearjoin/nearjoin/join/PrefixCut" "bag" "[I" (.ref a2) ∧ Fld Z h' a1 "com/example/nearjoin/nearjoin/join/PrefixCut" "least" "D" (.double d3) ∧ Fld Z h' a1 "com/example/nearjoin/nearjoin/join/PrefixCut" "heavyCount" "I" (.int (-1 : Int32)) ∧ Fld Z h' a1 "com/example/nearjoin/nearjoin/join/PrefixCut" "lastLevel" "I" (.int (1 : Int32)) ∧ Fld Z h' a1 "com/example/nearjoin/nearjoin/join/PrefixCut" "weights" "[D" (.ref w_weights_a1) ∧ Fld Z h' a1 "com/example/nearjoin/nearjoin/join/PrefixCut" "firstLast" "I" (.int w_firstLast_a1) ∧ Fld Z h' a1 "com/example/nearjoin/nearjoin/join/PrefixCut" "last" "I" (.int w_last_a1) ∧ Fld Z h' a1 "com/example/nearjoin/nearjoin/join/PrefixCut" "suffix" "[D" (.ref sx) ∧ Arv Z h' w_weights_a1 k_w_weights_a1 .double (8 : Int32) [(.double (FP.l2d w0)), (.double (FP.l2d w1)), (.double (FP.l2d w2)), (.double (FP.l2d w3)), (.double (FP.l2d w4)), (.double (FP.l2d w5)), (.double (FP.l2d w6)), (.double (FP.l2d w7))] (.double (FP.l2d (0 : Int64))) ∧ Arv Z h' a2 k_a2 .int (1 : Int32) [(.int r0), (.int r1), (.int r2), (.int r3)] (.int (0 : Int32)) ∧ Arv Z h' sx kx .double nx [(.double z126), (.double (FP.l2d (0 : Int64))), (.double x2), (.double x3), (.double x4)] (.double (FP.l2d (0 : Int64)))) (T121.setTop (mkF m 65 #[.val (.ref a1), .val (.ref a2), .val (.double d3), .second, .val (.int (1 : Int32)), .unset, .unset] [(.int (lcmpW kq (0 : Int64)))])) := by
      by_cases hc65_129 : (0 : Int64) < kq
      · refine own_preJ (B := T121.setTop (mkF m 68 #[.val (.ref a1), .val (.ref a2), .val (.double d3), .second, .val (.int (1 : Int32)), .unset, .unset] [])) (fun t k => XS.ifNo Xh122.here hx rfl (hb hby d4_65) rfl ((if0 _ _).trans (tlt ((lw_gt kq (0 : Int64)).mpr hc65_129)).2.2.2) k) ?_
        refine own_preJ (B := T121.setTop (mkF m 70 #[.val (.ref a1), .val (.ref a2), .val (.double d3), .second, .val (.int (1 : Int32)), .unset, .unset] [(.int (1 : Int32))])) (fun t k => XS.iload Xh122.here hx rfl (hb hby d4_68) rfl k) ?_
        refine own_preJ (B := T121.setTop (mkF m 73 #[.val (.ref a1), .val (.ref a2), .val (.double d3), .second, .val (.int (1 : Int32)), .unset, .unset] [])) (fun t k => XS.ifNo Xh122.here hx rfl (hb hby d4_70) rfl ((if0 _ _).trans (tlt (by decide : (0 : Int32) < (1 : Int32))).2.2.2) k) ?_
        refine own_preJ (B := T121.setTop (mkF m 74 #[.val (.ref a1), .val (.ref a2), .val (.double d3), .second, .val (.int (1 : Int32)), .unset, .unset] [(.ref a1)])) (fun t k => XS.aloadN Xh122.here hx rfl (hb hby d4_73) rfl rfl k) ?_
        have c130 := (Fld.other W121 Fsx (Or.inl nesx0))
        obtain ⟨T131, X131, e131, st131⟩ := getF Xh122 hx hZ hown (host := "") (Or.inl (hw _ (ow 19 rfl))) Via.refl e121 c130 (g := (mkF m 74 #[.val (.ref a1), .val (.ref a2), .val (.double d3), .second, .val (.int (1 : Int32)), .unset, .unset] [(.ref a1)])) rfl rfl (hb hby d4_74)
        refine own_preJ (B := T131.setTop (mkF m 77 #[.val (.ref a1), .val (.ref a2), .val (.double d3), .second, .val (.int (1 : Int32)), .unset, .unset] [(.ref sx)])) (fun t k => st131 t k) ?_
        refine own_preJ (B := T131.setTop (mkF m 79 #[.val (.ref a1), .val (.ref a2), .val (.double d3), .second, .val (.int (1 : Int32)), .unset, .unset] [(.int (1 : Int32)), (.ref sx)])) (fun t k => XS.iload X131.here hx rfl (hb hby d4_77) rfl k) ?_
        obtain ⟨cl132, Ar132, q132, S132, N132v, H132v, G132v⟩ := V121
        have V121 : Arv Z h121 sx kx .double nx [(.double x0), (.double (FP.l2d (0 : Int64))), (.double x2), (.double x3), (.double x4)] (.double (FP.l2d (0 : Int64))) := ⟨cl132, Ar132, q132, S132, N132v, H132v, G132v⟩
        have hin132 : ¬ ((1 : Int32) < 0 ∨ cl132.slots.size ≤ ((1 : Int32)).toNatClampNeg) := inb_of S132 ⟨by decide, own_ltle hlt (by decide)⟩
        have hat132 : cl132.slots[((1 : Int32)).toNatClampNeg]? = some (.double (FP.l2d (0 : Int64))) := H132v.at hin132 rfl
        refine own_preJ (B := T131.setTop (mkF m 80 #[.val (.ref a1), .val (.ref a2), .val (.double d3), .second, .val (.int (1 : Int32)), .unset, .unset] [(.double (FP.l2d (0 : Int64)))])) (fun t k => X131.daload hx (j := (1 : Int32)) (v := (.double (FP.l2d (0 : Int64)))) (by rw [e131]; exact Ar132.1) (State.isArrayOf_alike hZ.alike Ar132.2.1) Ar132.2.2 hin132 hat132 (g := (mkF m 79 #[.val (.ref a1), .val (.ref a2), .val (.double d3), .second, .val (.int (1 : Int32)), .unset, .unset] [(.int (1 : Int32)), (.ref sx)])) rfl rfl (hb hby d4_79) t k) ?_
        refine own_preJ (B := T131.setTop (mkF m 81 #[.val (.ref a1), .val (.ref a2), .val (.double d3), .second, .val (.int (1 : Int32)), .unset, .unset] [(.ref a1), (.double (FP.l2d (0 : Int64)))])) (fun t k => XS.aloadN X131.here hx rfl (hb hby d4_80) rfl rfl k) ?_
        have c133 := (Fld.other W121 j28_5 (Or.inl nesx0))
        obtain ⟨T134, X134, e134, st134⟩ := getF X131 hx hZ hown (host := "") (Or.inl (hw _ (ow 25 rfl))) Via.refl e131 c133 (g := (mkF m 81 #[.val (.ref a1), .val (.ref a2), .val (.double d3), .second, .val (.int (1 : Int32)), .unset, .unset] [(.ref a1), (.double (FP.l2d (0 : Int64)))])) rfl rfl (hb hby d4_81)
        refine own_preJ (B := T134.setTop (mkF m 84 #[.val (.ref a1), .val (.ref a2), .val (.double d3), .second, .val (.int (1 : Int32)), .unset, .unset] [(.ref w_weights_a1), (.double (FP.l2d (0 : Int64)))])) (fun t k => st134 t k) ?_
        refine own_preJ (B := T134.setTop (mkF m 85 #[.val (.ref a1), .val (.ref a2), .val (.double d3), .second, .val (.int (1 : Int32)), .unset, .unset] [(.ref a2), (.ref w_weights_a1), (.double (FP.l2d (0 : Int64)))])) (fun t k => XS.aloadN X134.here hx rfl (hb hby d4_84) rfl rfl k) ?_
        refine own_preJ (B := T134.setTop (mkF m 87 #[.val (.ref a1), .val (.ref a2), .val (.double d3), .second, .val (.int (1 : Int32)), .unset, .unset] [(.int (1 : Int32)), (.ref a2), (.ref w_weights_a1), (.double (FP.l2d (0 : Int64)))])) (fun t k => XS.iload X134.here hx rfl (hb hby d4_85) rfl k) ?_
        refine own_preJ (B := T134.setTop (mkF m 88 #[.val (.ref a1), .val (.ref a2), .val (.double d3), .second, .val (.int (1 : Int32)), .unset, .unset] [(.int (1 : Int32)), (.int (1 : Int32)), (.ref a2), (.ref w_weights_a1), (.double (FP.l2d (0 : Int64)))])) (fun t k => XS.iconst X134.here hx rfl (hb hby d4_87) k) ?_
        refine own_preJ (B := T134.setTop (mkF m 89 #[.val (.ref a1), .val (.ref a2), .val (.double d3), .second, .val (.int (1 : Int32)), .unset, .unset] [(.int (0 : Int32)), (.ref a2), (.ref w_weights_a1), (.double (FP.l2d (0 : Int64)))])) (fun t k => XS.isub X134.here hx rfl (hb hby d4_88) rfl k) ?_
        have c135 := (Arv.other j28_9 W121 nesx2)
        obtain ⟨cl136, Ar136, q136, S136, N136v, H136v, G136v⟩ := c135
        have c135 : Arv Z h121 a2 k_a2 .int (1 : Int32) [(.int r0), (.int r1), (.int r2), (.int r3)] (.int (0 : Int32)) := ⟨cl136, Ar136, q136, S136, N136v, H136v, G136v⟩
        have hin136 : ¬ ((0 : Int32) < 0 ∨ cl136.slots.size ≤ ((0 : Int32)).toNatClampNeg) := inb_of S136 ⟨by decide, by decide⟩
        have hat136 : cl136.slots[((0 : Int32)).toNatClampNeg]? = some (.int r0) := H136v.at hin136 rfl
        refine own_preJ (B := T134.setTop (mkF m 90 #[.val (.ref a1), .val (.ref a2), .val (.double d3), .second, .val (.int (1 : Int32)), .unset, .unset] [(.int r0), (.ref w_weights_a1), (.double (FP.l2d (0 : Int64)))])) (fun t k => X134.iaload hx (j := (0 : Int32)) (v := (.int r0)) (by rw [e134]; exact Ar136.1) (State.isArrayOf_alike hZ.alike Ar136.2.1) Ar136.2.2 hin136 hat136 (g := (mkF m 89 #[.val (.ref a1), .val (.ref a2), .val (.double d3), .second, .val (.int (1 : Int32)), .unset, .unset] [(.int (0 : Int32)), (.ref a2), (.ref w_weights_a1), (.double (FP.l2d (0 : Int64)))])) rfl rfl (hb hby d4_89) t k) ?_
        have c137 := (Arv.other j28_8 W121 nesx1)
        obtain ⟨cl138, Ar138, q138, S138, N138v, H138v, G138v⟩ := c137
        have c137 : Arv Z h121 w_weights_a1 k_w_weights_a1 .double (8 : Int32) [(.double (FP.l2d w0)), (.double (FP.l2d w1)), (.double (FP.l2d w2)), (.double (FP.l2d w3)), (.double (FP.l2d w4)), (.double (FP.l2d w5)), (.double (FP.l2d w6)), (.double (FP.l2d w7))] (.double (FP.l2d (0 : Int64))) := ⟨cl138, Ar138, q138, S138, N138v, H138v, G138v⟩
        have hin138 : ¬ (r0 < 0 ∨ cl138.slots.size ≤ (r0).toNatClampNeg) := inb_of S138 hR0
        have hat138 : cl138.slots[(r0).toNatClampNeg]? = some (.double (FP.l2d ve0)) := H138v.at hin138 (own_getE hR0 hE0)
        refine own_preJ (B := T134.setTop (mkF m 91 #[.val (.ref a1), .val (.ref a2), .val (.double d3), .second, .val (.int (1 : Int32)), .unset, .unset] [(.double (FP.l2d ve0)), (.double (FP.l2d (0 : Int64)))])) (fun t k => X134.daload hx (j := r0) (v := (.double (FP.l2d ve0))) (by rw [e134]; exact Ar138.1) (State.isArrayOf_alike hZ.alike Ar138.2.1) Ar138.2.2 hin138 hat138 (g := (mkF m 90 #[.val (.ref a1), .val (.ref a2), .val (.double d3), .second, .val (.int (1 : Int32)), .unset, .unset] [(.int r0), (.ref w_weights_a1), (.double (FP.l2d (0 : Int64)))])) rfl rfl (hb hby d4_90) t k) ?_
        refine own_preJ (B := T134.setTop (mkF m 92 #[.val (.ref a1), .val (.ref a2), .val (.double d3), .second, .val (.int (1 : Int32)), .unset, .unset] [(.double (FP.l2d ((0 : Int64) + ve0)))])) (fun t k => XS.daddS X134.here hx rfl (hb hby d4_91) rfl (nn_w (own_add own_B0 hB0 (by decide))) (own_add own_B0 hB0 (by decide)) k) ?_
        refine own_preJ (B := T134.setTop (mkF m 94 #[.val (.ref a1), .val (.ref a2), .val (.double d3), .second, .val (.int (1 : Int32)), .val (.double (FP.l2d ((0 : Int64) + ve0))), .second] [])) (fun t k => XS.dstore X134.here hx rfl (hb hby d4_92) rfl (l' := #[.val (.ref a1), .val (.ref a2), .val (.double d3), .second, .val (.int (1 : Int32)), .val (.double (FP.l2d ((0 : Int64) + ve0))), .second]) rfl k) ?_
        refine own_preJ (B := T134.setTop (mkF m 95 #[.val (.ref a1), .val (.ref a2), .val (.double d3), .second, .val (.int (1 : Int32)), .val (.double (FP.l2d ((0 : Int64) + ve0))), .second] [(.ref a1)])) (fun t k => XS.aloadN X134.here hx rfl (hb hby d4_94) rfl rfl k) ?_
        obtain ⟨T139, X139, e139, st139⟩ := getF X134 hx hZ hown (host := "") (Or.inl (hw _ (ow 19 rfl))) Via.refl e134 c130 (g := (mkF m 95 #[.val (.ref a1), .val (.ref a2), .val (.double d3), .second, .val (.int (1 : Int32)), .val (.double (FP.l2d ((0 : Int64) + ve0))), .second] [(.ref a1)])) rfl rfl (hb hby d4_95)
        refine own_preJ (B := T139.setTop (mkF m 98 #[.val (.ref a1), .val (.ref a2), .val (.double d3), .second, .val (.int (1 : Int32)), .val (.double (FP.l2d ((0 : Int64) + ve0))), .second] [(.ref sx)])) (fun t k => st139 t k) ?_
        refine own_preJ (B := T139.setTop (mkF m 100 #[.val (.ref a1), .val (.ref a2), .val (.double d3), .second, .val (.int (1 : Int32)), .val (.double (FP.l2d ((0 : Int64) + ve0))), .second] [(.int (1 : Int32)), (.ref sx)])) (fun t k => XS.iload X139.here hx rfl (hb hby d4_98) rfl k) ?_
        refine own_preJ (B := T139.setTop (mkF m 101 #[.val (.ref a1), .val (.ref a2), .val (.double d3), .second, .val (.int (1 : Int32)), .val (.double (FP.l2d ((0 : Int64) + ve0))), .second] [(.int (1 : Int32)), (.int (1 : Int32)), (.ref sx)])) (fun t k => XS.iconst X139.here hx rfl (hb hby d4_100) k) ?_
        refine own_preJ (B := T139.setTop (mkF m 102 #[.val (.ref a1), .val (.ref a2), .val (.double d3), .second, .val (.int (1 : Int32)), .val (.double (FP.l2d ((0 : Int64) + ve0))), .second] [(.int (0 : Int32)), (.ref sx)])) (fun t k => XS.isub X139.here hx rfl (hb hby d4_101) rfl k) ?_
        refine own_preJ (B := T139.setTop (mkF m 104 #[.val (.ref a1), .val (.ref a2), .val (.double d3), .second, .val (.int (1 : Int32)), .val (.double (FP.l2d ((0 : Int64) + ve0))), .second] [(.double (FP.l2d ((0 : Int64) + ve0))), (.int (0 : Int32)), (.ref sx)])) (fun t k => XS.dload X139.here hx rfl (hb hby d4_102) rfl k) ?_
        obtain ⟨cl140, Ar140, q140, S140, N140v, H140v, G140v⟩ := V121
        have V121 : Arv Z h121 sx kx .double nx [(.double x0), (.double (FP.l2d (0 : Int64))), (.double x2), (.double x3), (.double x4)] (.double (FP.l2d (0 : Int64))) := ⟨cl140, Ar140, q140, S140, N140v, H140v, G140v⟩
        have hin140 : ¬ ((0 : Int32) < 0 ∨ cl140.slots.size ≤ ((0 : Int32)).toNatClampNeg) := inb_of S140 ⟨by decide, own_ltle hlt (by decide)⟩
        obtain ⟨T141, h141, X141, e141, W141, st141⟩ := stD X139 hx hZ e139 Ar140 (j := (0 : Int32)) hin140 (g := (mkF m 104 #[.val (.ref a1), .val (.ref a2), .val (.double d3), .second, .val (.int (1 : Int32)), .val (.double (FP.l2d ((0 : Int64) + ve0))), .second] [(.double (FP.l2d ((0 : Int64) + ve0))), (.int (0 : Int32)), (.ref sx)])) rfl rfl (hb hby d4_104)
        have V141 : Arv Z h141 sx kx .double nx [(.double (FP.l2d ((0 : Int64) + ve0))), (.double (FP.l2d (0 : Int64))), (.double x2), (.double x3), (.double x4)] (.double (FP.l2d (0 : Int64))) := Arv.set Ar140 q140 S140 N140v H140v G140v rfl W141 0 rfl (Nat.le_of_ble_eq_true rfl)
        have N141 := Fr.snoc X141 Nh122 gsx
        obtain ⟨Lh142, Xh142, Nh142⟩ := own_hide X141 N141
        refine own_preJ (B := T141.setTop (mkF m 105 #[.val (.ref a1), .val (.ref a2), .val (.double d3), .second, .val (.int (1 : Int32)), .val (.double (FP.l2d ((0 : Int64) + ve0))), .second] [])) (fun t k => st141 t k) ?_
        refine own_preJ (B := T141.setTop (mkF m 107 #[.val (.ref a1), .val (.ref a2), .val (.double d3), .second, .val (.int (1 : Int32)), .val (.double (FP.l2d ((0 : Int64) + ve0))), .second] [(.double (FP.l2d ((0 : Int64) + ve0)))])) (fun t k => XS.dload Xh142.here hx rfl (hb hby d4_105) rfl k) ?_
        refine own_preJ (B := T141.setTop (mkF m 108 #[.val (.ref a1), .val (.ref a2), .val (.double d3), .second, .val (.int (1 : Int32)), .val (.double (FP.l2d ((0 : Int64) + ve0))), .second] [(.double d3), (.double (FP.l2d ((0 : Int64) + ve0)))])) (fun t k => XS.dloadN Xh142.here hx rfl (hb hby d4_107) rfl k) ?_
        refine own_preJ (B := T141.setTop (mkF m 109 #[.val (.ref a1), .val (.ref a2), .val (.double d3), .second, .val (.int (1 : Int32)), .val (.double (FP.l2d ((0 : Int64) + ve0))), .second] [(.int (lcmpW (((0 : Int64) + ve0) + ((0 : Int64) + ve0)) kq))])) (fun t k => XS.dcmpS Xh142.here hx rfl (hb hby d4_108) rfl (own_cmpd hd (own_Badd own_B0 hB0 (by decide)) (by decide) hk _) k) ?_
        by_cases hc109_143 : (((0 : Int64) + ve0) + ((0 : Int64) + ve0)) < kq
        · refine own_preJ (B := T141.setTop (mkF m 115 #[.val (.ref a1), .val (.ref a2), .val (.double d3), .second, .val (.int (1 : Int32)), .val (.double (FP.l2d ((0 : Int64) + ve0))), .second] [])) (fun t k => XS.ifYes Xh142.here hx rfl (pc0 := 109) (pc' := 115) rfl (hb hby d4_109) rfl ((if0 _ _).trans (tlt ((lw_lt (((0 : Int64) + ve0) + ((0 : Int64) + ve0)) kq).mpr hc109_143)).1) (by decide) (by decide) k) ?_
          refine own_preJ (B := T141.setTop (mkF m 118 #[.val (.ref a1), .val (.ref a2), .val (.double d3), .second, .val (.int (0 : Int32)), .val (.double (FP.l2d ((0 : Int64) + ve0))), .second] [])) (fun t k => XS.iinc Xh142.here hx rfl (hb hby d4_115) rfl (l' := #[.val (.ref a1), .val (.ref a2), .val (.double d3), .second, .val (.int (0 : Int32)), .val (.double (FP.l2d ((0 : Int64) + ve0))), .second]) rfl k) ?_
          refine own_preJ (B := T141.setTop (mkF m 68 #[.val (.ref a1), .val (.ref a2), .val (.double d3), .second, .val (.int (0 : Int32)), .val (.double (FP.l2d ((0 : Int64) + ve0))), .second] [])) (fun t k => XS.goto Xh142.here hx rfl (pc0 := 118) (pc' := 68) rfl (hb hby d4_118) (by decide) (by decide) k) ?_
          refine own_preJ (B := T141.setTop (mkF m 70 #[.val (.ref a1), .val (.ref a2), .val (.double d3), .second, .val (.int (0 : Int32)), .val (.double (FP.l2d ((0 : Int64) + ve0))), .second] [(.int (0 : Int32))])) (fun t k => XS.iload Xh142.here hx rfl (hb hby d4_68) rfl k) ?_
          refine own_preJ (B := T141.setTop (mkF m 121 #[.val (.ref a1), .val (.ref a2), .val (.double d3), .second, .val (.int (0 : Int32)), .val (.double (FP.l2d ((0 : Int64) + ve0))), .second] [])) (fun t k => XS.ifYes Xh142.here hx rfl (pc0 := 70) (pc' := 121) rfl (hb hby d4_70) rfl ((if0 _ _).trans (flt (by decide : ¬ ((0 : Int32) < (0 : Int32)))).2.2.2) (by decide) (by decide) k) ?_
          rw [if_pos hc65_129, if_pos hc109_143] at hz123
          subst hz123
          rw [if_pos hc65_129, if_pos hc109_143] at hz126
          subst hz126
          have K144 : Keep h0 h141 [a1, w_suffix_a1] := (Keep.wr K128 W141 msx)
          have c145 := (Exa.wr W141 (Exa.wr W121 j28_0))
          have c146 := (Fld.other W141 (Fld.other W121 j28_1 (Or.inl nesx0)) (Or.inl nesx0))
          have c147 := (Fld.other W141 (Fld.other W121 j28_2 (Or.inl nesx0)) (Or.inl nesx0))
          have c148 := (Fld.other W141 (Fld.other W121 j28_3 (Or.inl nesx0)) (Or.inl nesx0))
          have c149 := (Fld.other W141 (Fld.other W121 j28_4 (Or.inl nesx0)) (Or.inl nesx0))
          have c150 := (Fld.other W141 c133 (Or.inl nesx0))
          have c151 := (Fld.other W141 (Fld.other W121 j28_6 (Or.inl nesx0)) (Or.inl nesx0))
          have c152 := (Fld.other W141 (Fld.other W121 j28_7 (Or.inl nesx0)) (Or.inl nesx0))
          have c153 := (Fld.other W141 c130 (Or.inl nesx0))
          have c154 := (Arv.other c137 W141 nesx1)
          have c155 := (Arv.other c135 W141 nesx2)
          exact ⟨_, ⟨_, _, _, (.val (.double (FP.l2d ((0 : Int64) + ve0)))), .second, rfl, own_more Xh142 (by decide) (by decide), e141, Nh142, K144, c145, c146, c147, c148, c149, c150, c151, c152, c153, c154, c155, V141⟩, fun t k => k⟩
        · refine own_preJ (B := T141.setTop (mkF m 112 #[.val (.ref a1), .val (.ref a2), .val (.double d3), .second, .val (.int (1 : Int32)), .val (.double (FP.l2d ((0 : Int64) + ve0))), .second] [])) (fun t k => XS.ifNo Xh142.here hx rfl (hb hby d4_109) rfl ((if0 _ _).trans (flt (mt (lw_lt (((0 : Int64) + ve0) + ((0 : Int64) + ve0)) kq).mp hc109_143)).1) k) ?_
          refine own_preJ (B := T141.setTop (mkF m 121 #[.val (.ref a1), .val (.ref a2), .val (.double d3), .second, .val (.int (1 : Int32)), .val (.double (FP.l2d ((0 : Int64) + ve0))), .second] [])) (fun t k => XS.goto Xh142.here hx rfl (pc0 := 112) (pc' := 121) rfl (hb hby d4_112) (by decide) (by decide) k) ?_
          rw [if_pos hc65_129, if_neg hc109_143] at hz123
          subst hz123
          rw [if_pos hc65_129, if_neg hc109_143] at hz126
          subst hz126
          have K156 : Keep h0 h141 [a1, w_suffix_a1] := (Keep.wr K128 W141 msx)
          have c157 := (Exa.wr W141 (Exa.wr W121 j28_0))
          have c158 := (Fld.other W141 (Fld.other W121 j28_1 (Or.inl nesx0)) (Or.inl nesx0))
          have c159 := (Fld.other W141 (Fld.other W121 j28_2 (Or.inl nesx0)) (Or.inl nesx0))
          have c160 := (Fld.other W141 (Fld.other W121 j28_3 (Or.inl nesx0)) (Or.inl nesx0))
          have c161 := (Fld.other W141 (Fld.other W121 j28_4 (Or.inl nesx0)) (Or.inl nesx0))
          have c162 := (Fld.other W141 c133 (Or.inl nesx0))
          have c163 := (Fld.other W141 (Fld.other W121 j28_6 (Or.inl nesx0)) (Or.inl nesx0))
          have c164 := (Fld.other W141 (Fld.other W121 j28_7 (Or.inl nesx0)) (Or.inl nesx0))
          have c165 := (Fld.other W141 c130 (Or.inl nesx0))
          have c166 := (Arv.other c137 W141 nesx1)
          have c167 := (Arv.other c135 W141 nesx2)
          exact ⟨_, ⟨_, _, _, (.val (.double (FP.l2d ((0 : Int64) + ve0)))), .second, rfl, own_more Xh142 (by decide) (by decide), e141, Nh142, K156, c157, c158, c159, c160, c161, c162, c163, c164, c165, c166, c167, V141⟩, fun t k => k⟩
      · refine own_preJ (B := T121.setTop (mkF m 121 #[.val (.ref a1), .val (.ref a2), .val (.double d3), .second, .val (.int (1 : Int32)), .unset, .unset] [])) (fun t k => XS.ifYes Xh122.here hx rfl (pc0 := 65) (pc' := 121) rfl (hb hby d4_65) rfl ((if0 _ _).trans (flt (mt (lw_gt kq (0 : Int64)).mp hc65_129)).2.2.2) (by decide) (by decide) k) ?_
        rw [if_neg hc65_129] at hz123
        subst hz123
        rw [if_neg hc65_129] at hz126
        subst hz126
        have c168 := (Exa.wr W121 j28_0)
        have c169 := (Fld.other W121 j28_1 (Or.inl nesx0))
        have c170 := (Fld.other W121 j28_2 (Or.inl nesx0))
        have c171 := (Fld.other W121 j28_3 (Or.inl nesx0))
        have c172 := (Fld.other W121 j28_4 (Or.inl nesx0))
        have c173 := (Fld.other W121 j28_5 (Or.inl nesx0))
        have c174 := (Fld.other W121 j28_6 (Or.inl nesx0))
        have c175 := (Fld.other W121 j28_7 (Or.inl nesx0))
        have c176 := (Fld.other W121 Fsx (Or.inl nesx0))
        have c177 := (Arv.other j28_8 W121 nesx1)
        have c178 := (Arv.other j28_9 W121 nesx2)
        exact ⟨_, ⟨_, _, _, .unset, .unset, rfl, own_more Xh122 (by decide) (by decide), e121, Nh122, K128, c168, c169, c170, c171, c172, c173, c174, c175, c176, c177, c178, V121⟩, fun t k => k⟩
    refine own_pre (B := T127.setTop (mkF m 121 #[.val (.ref a1), .val (.ref a2), .val (.double d3), .second, .val (.int z123), sl124, sl125] [])) (fun t k => st127 t k) ?_
    refine own_pre (B := T127.setTop (mkF m 122 #[.val (.ref a1), .val (.ref a2), .val (.double d3), .second, .val (.int z123), sl124, sl125] [(.ref a1)])) (fun t k => XS.aloadN X127.here hx rfl (hb hby d4_121) rfl rfl k) ?_
    refine own_pre (B := T127.setTop (mkF m 124 #[.val (.ref a1), .val (.ref a2), .val (.double d3), .second, .val (.int z123), sl124, sl125] [(.int z123), (.ref a1)])) (fun t k => XS.iload X127.here hx rfl (hb hby d4_122) rfl k) ?_
    refine own_pre (B := T127.setTop (mkF m 125 #[.val (.ref a1), .val (.ref a2), .val (.double d3), .second, .val (.int z123), sl124, sl125] [(.int (1 : Int32)), (.int z123), (.ref a1)])) (fun t k => XS.iconst X127.here hx rfl (hb hby d4_124) k) ?_
    refine own_pre (B := T127.setTop (mkF m 126 #[.val (.ref a1), .val (.ref a2), .val (.double d3), .second, .val (.int z123), sl124, sl125] [(.int (z123 - (1 : Int32))), (.ref a1)])) (fun t k => XS.isub X127.here hx rfl (hb hby d4_125) rfl k) ?_
    obtain ⟨T179, h179, X179, e179, W179, st179⟩ := putF X127 hx hZ hown (host := "") (Or.inl (hw _ (ow 38 rfl))) Via.refl e127 j127_6 j127_0 (Or.inl (hw _ (ow 39 rfl))) (hw _ (ow 9 rfl)) (ty := .int) (by decide) rfl rfl (g := (mkF m 126 #[.val (.ref a1), .val (.ref a2), .val (.double d3), .second, .val (.int z123), sl124, sl125] [(.int (z123 - (1 : Int32))), (.ref a1)])) rfl rfl (hb hby d4_126)
    have Fw179 := Fld.same W179 j127_6
    have N179 := Fr.snoc X179 N127 g_a1
    obtain ⟨Lh180, Xh180, Nh180⟩ := own_hide X179 N179
    refine own_pre (B := T179.setTop (mkF m 129 #[.val (.ref a1), .val (.ref a2), .val (.double d3), .second, .val (.int z123), sl124, sl125] [])) (fun t k => st179 t k) ?_
    refine own_pre (B := T179.setTop (mkF m 130 #[.val (.ref a1), .val (.ref a2), .val (.double d3), .second, .val (.int z123), sl124, sl125] [(.ref a1)])) (fun t k => XS.aloadN Xh180.here hx rfl (hb hby d4_129) rfl rfl k) ?_
    refine own_pre (B := T179.setTop (mkF m 131 #[.val (.ref a1), .val (.ref a2), .val (.double d3), .second, .val (.int z123), sl124, sl125] [(.ref a1), (.ref a1)])) (fun t k => XS.aloadN Xh180.here hx rfl (hb hby d4_130) rfl rfl k) ?_
    obtain ⟨T181, X181, e181, st181⟩ := getF Xh180 hx hZ hown (host := "") (Or.inl (hw _ (ow 38 rfl))) Via.refl e179 Fw179 (g := (mkF m 131 #[.val (.ref a1), .val (.ref a2), .val (.double d3), .second, .val (.int z123), sl124, sl125] [(.ref a1), (.ref a1)])) rfl rfl (hb hby d4_131)
    refine own_pre (B := T181.setTop (mkF m 134 #[.val (.ref a1), .val (.ref a2), .val (.double d3), .second, .val (.int z123), sl124, sl125] [(.int (z123 - (1 : Int32))), (.ref a1)])) (fun t k => st181 t k) ?_
    have c182 := (Exa.wr W179 j127_0)
    have c183 := (Fld.other W179 j127_7 (Or.inr (slot_ne (Or.inl (hw _ (ow 41 rfl))) (Or.inl (hw _ (ow 39 rfl))) (by decide) (t := .int) (t' := .int) (by decide) (by decide))))
    have K184 : Keep h0 h179 [a1, w_suffix_a1] := (Keep.wr K127j W179 (Or.inl (List.mem_of_getElem? (i := 0) rfl)))
    obtain ⟨T185, h185, X185, e185, W185, st185⟩ := putF X181 hx hZ hown (host := "") (Or.inl (hw _ (ow 40 rfl))) Via.refl e181 c183 c182 (Or.inl (hw _ (ow 41 rfl))) (hw _ (ow 9 rfl)) (ty := .int) (by decide) rfl rfl (g := (mkF m 134 #[.val (.ref a1), .val (.ref a2), .val (.double d3), .second, .val (.int z123), sl124, sl125] [(.int (z123 - (1 : Int32))), (.ref a1)])) rfl rfl (hb hby d4_134)
    have Fw185 := Fld.same W185 c183
    have N185 := Fr.snoc X185 Nh180 g_a1
    obtain ⟨Lh186, Xh186, Nh186⟩ := own_hide X185 N185
    refine own_pre (B := T185.setTop (mkF m 137 #[.val (.ref a1), .val (.ref a2), .val (.double d3), .second, .val (.int z123), sl124, sl125] [])) (fun t k => st185 t k) ?_
    refine own_pre (B := T185.setTop (mkF m 139 #[.val (.ref a1), .val (.ref a2), .val (.double d3), .second, .val (.int z123), sl124, sl125] [(.int z123)])) (fun t k => XS.iload Xh186.here hx rfl (hb hby d4_137) rfl k) ?_
    have K187 : Keep h0 h185 [a1, w_suffix_a1] := (Keep.wr K184 W185 (Or.inl (List.mem_of_getElem? (i := 0) rfl)))
    have c188 := (Exa.wr W185 c182)
    have c189 := (Arv.other (Arv.other j127_11 W179 (Ne.symm nesx0)) W185 (Ne.symm nesx0))
    have c190 := (Fld.other W185 (Fld.other W179 j127_1 (Or.inr (slot_ne (Or.inl (hw _ (ow 18 rfl))) (Or.inl (hw _ (ow 39 rfl))) (by decide) (t := (.array .int)) (t' := .int) (by decide) (by decide)))) (Or.inr (slot_ne (Or.inl (hw _ (ow 18 rfl))) (Or.inl (hw _ (ow 41 rfl))) (by decide) (t := (.array .int)) (t' := .int) (by decide) (by decide))))
    have c191 := (Fld.other W185 (Fld.other W179 j127_2 (Or.inr (slot_ne (Or.inl (hw _ (ow 33 rfl))) (Or.inl (hw _ (ow 39 rfl))) (by decide) (t := .double) (t' := .int) (by decide) (by decide)))) (Or.inr (slot_ne (Or.inl (hw _ (ow 33 rfl))) (Or.inl (hw _ (ow 41 rfl))) (by decide) (t := .double) (t' := .int) (by decide) (by decide))))
    have c192 := (Fld.other W185 (Fld.other W179 j127_3 (Or.inr (slot_ne (Or.inl (hw _ (ow 35 rfl))) (Or.inl (hw _ (ow 39 rfl))) (by decide) (t := .int) (t' := .int) (by decide) (by decide)))) (Or.inr (slot_ne (Or.inl (hw _ (ow 35 rfl))) (Or.inl (hw _ (ow 41 rfl))) (by decide) (t := .int) (t' := .int) (by decide) (by decide))))
    have c193 := (Fld.other W185 (Fld.other W179 j127_4 (Or.inr (slot_ne (Or.inl (hw _ (ow 37 rfl))) (Or.inl (hw _ (ow 39 rfl))) (by decide) (t := .int) (t' := .int) (by decide) (by decide)))) (Or.inr (slot_ne (Or.inl (hw _ (ow 37 rfl))) (Or.inl (hw _ (ow 41 rfl))) (by decide) (t := .int) (t' := .int) (by decide) (by decide))))
    have c194 := (Fld.other W185 (Fld.other W179 j127_8 (Or.inr (slot_ne (Or.inl (hw _ (ow 20 rfl))) (Or.inl (hw _ (ow 39 rfl))) (by decide) (t := (.array .double)) (t' := .int) (by decide) (by decide)))) (Or.inr (slot_ne (Or.inl (hw _ (ow 20 rfl))) (Or.inl (hw _ (ow 41 rfl))) (by decide) (t := (.array .double)) (t' := .int) (by decide) (by decide))))
    have c195 := (Fld.other W185 (Fld.other W179 j127_5 (Or.inr (slot_ne (Or.inr (hw _ (ow 26 rfl))) (Or.inl (hw _ (ow 39 rfl))) (by decide) (t := (.array .double)) (t' := .int) (by decide) (by decide)))) (Or.inr (slot_ne (Or.inr (hw _ (ow 26 rfl))) (Or.inl (hw _ (ow 41 rfl))) (by decide) (t := (.array .double)) (t' := .int) (by decide) (by decide))))
    have c196 := (Fld.other W185 Fw179 (Or.inr (slot_ne (Or.inl (hw _ (ow 39 rfl))) (Or.inl (hw _ (ow 41 rfl))) (by decide) (t := .int) (t' := .int) (by decide) (by decide))))
    obtain ⟨fsr197, hrr197, hrunr197, hendedr197, hWr197, hsamer197⟩ := Xh186.leave (v := some (.int z123)) (fun h => by rw [Bd.returns] at h; cases h)
    refine ⟨_, _, (retI Xh186 hx Bd.returns (hb hby d4_139) hrr197), hrunr197, hendedr197, _, _, rfl, ?_, ⟨_, rfl⟩, hWr197, hsamer197.mono (by decide) (by decide)⟩
    show Q4 Z a1 a2 d3 w_suffix_a1 w_weights_a1 k_w_suffix_a1 NN u0 u1 u2 u3 u4 k_w_weights_a1 w0 w1 w2 w3 w4 w5 w6 w7 k_a2 (1 : Int32) r0 r1 r2 r3 kq ve0 ve1 ve2 ve3 w_firstLast_a1 w_last_a1 u_bag_a1 u_least_a1 u_heavyCount_a1 u_lastLevel_a1 h0 n0 _ T185.heap _
    rw [e185]
    exact ⟨sx, kx, nx, z126, (FP.l2d (0 : Int64)), x2, x3, x4, (z123 - (1 : Int32)), (z123 - (1 : Int32)), (by rw [hz123, own_f4_1]), Nh186, K187, gsx, osx, hnx, c188, c190, c191, c192, c193, c194, c195, c196, Fw185, c189⟩
  · have hR_ := hR0
    refine own_pre (B := T28.setTop (mkF m 51 #[.val (.ref a1), .val (.ref a2), .val (.double d3), .second, .unset, .unset, .unset] [(.ref a2)])) (fun t k => XS.aloadN X28.here hx rfl (hb hby d4_50) rfl rfl k) ?_
    obtain ⟨cl198, Ar198, -, S198, N198v, -, -⟩ := id j28_9
    refine own_pre (B := T28.setTop (mkF m 52 #[.val (.ref a1), .val (.ref a2), .val (.double d3), .second, .unset, .unset, .unset] [(.int (2 : Int32))])) (fun t k => X28.arraylength hx (by rw [e28]; exact Ar198.1) (State.isArrayOf_alike hZ.alike Ar198.2.1) (g := (mkF m 51 #[.val (.ref a1), .val (.ref a2), .val (.double d3), .second, .unset, .unset, .unset] [(.ref a2)])) rfl rfl (hb hby d4_51) t (by rw [len_of S198 N198v]; exact k)) ?_
    refine own_pre (B := T28.setTop (mkF m 54 #[.val (.ref a1), .val (.ref a2), .val (.double d3), .second, .val (.int (2 : Int32)), .unset, .unset] [])) (fun t k => XS.istore X28.here hx rfl (hb hby d4_52) rfl (l' := #[.val (.ref a1), .val (.ref a2), .val (.double d3), .second, .val (.int (2 : Int32)), .unset, .unset]) rfl k) ?_
    refine own_pre (B := T28.setTop (mkF m 55 #[.val (.ref a1), .val (.ref a2), .val (.double d3), .second, .val (.int (2 : Int32)), .unset, .unset] [(.ref a1)])) (fun t k => XS.aloadN X28.here hx rfl (hb hby d4_54) rfl rfl k) ?_
    obtain ⟨T199, X199, e199, st199⟩ := getF X28 hx hZ hown (host := "") (Or.inl (hw _ (ow 19 rfl))) Via.refl e28 Fsx (g := (mkF m 55 #[.val (.ref a1), .val (.ref a2), .val (.double d3), .second, .val (.int (2 : Int32)), .unset, .unset] [(.ref a1)])) rfl rfl (hb hby d4_55)
    refine own_pre (B := T199.setTop (mkF m 58 #[.val (.ref a1), .val (.ref a2), .val (.double d3), .second, .val (.int (2 : Int32)), .unset, .unset] [(.ref sx)])) (fun t k => st199 t k) ?_
    refine own_pre (B := T199.setTop (mkF m 60 #[.val (.ref a1), .val (.ref a2), .val (.double d3), .second, .val (.int (2 : Int32)), .unset, .unset] [(.int (2 : Int32)), (.ref sx)])) (fun t k => XS.iload X199.here hx rfl (hb hby d4_58) rfl k) ?_
    refine own_pre (B := T199.setTop (mkF m 61 #[.val (.ref a1), .val (.ref a2), .val (.double d3), .second, .val (.int (2 : Int32)), .unset, .unset] [(.double (FP.l2d (0 : Int64))), (.int (2 : Int32)), (.ref sx)])) (fun t k => XS.dconst0 X199.here hx rfl (hb hby d4_60) own_dc0 k) ?_
    obtain ⟨cl200, Ar200, q200, S200, N200v, H200v, G200v⟩ := Vsx
    have Vsx : Arv Z h28 sx kx .double nx [(.double x0), (.double x1), (.double x2), (.double x3), (.double x4)] (.double (FP.l2d (0 : Int64))) := ⟨cl200, Ar200, q200, S200, N200v, H200v, G200v⟩
    have hin200 : ¬ ((2 : Int32) < 0 ∨ cl200.slots.size ≤ ((2 : Int32)).toNatClampNeg) := inb_of S200 ⟨by decide, own_ltle hlt (by decide)⟩
    obtain ⟨T201, h201, X201, e201, W201, st201⟩ := stD X199 hx hZ e199 Ar200 (j := (2 : Int32)) hin200 (g := (mkF m 61 #[.val (.ref a1), .val (.ref a2), .val (.double d3), .second, .val (.int (2 : Int32)), .unset, .unset] [(.double (FP.l2d (0 : Int64))), (.int (2 : Int32)), (.ref sx)])) rfl rfl (hb hby d4_61)
    have V201 : Arv Z h201 sx kx .double nx [(.double x0), (.double x1), (.double (FP.l2d (0 : Int64))), (.double x3), (.double x4)] (.double (FP.l2d (0 : Int64))) := Arv.set Ar200 q200 S200 N200v H200v G200v rfl W201 2 rfl (Nat.le_of_ble_eq_true rfl)
    have N201 := Fr.snoc X201 N28 gsx
    obtain ⟨Lh202, Xh202, Nh202⟩ := own_hide X201 N201
    refine own_pre (B := T201.setTop (mkF m 62 #[.val (.ref a1), .val (.ref a2), .val (.double d3), .second, .val (.int (2 : Int32)), .unset, .unset] [])) (fun t k => st201 t k) ?_
    refine own_pre (B := T201.setTop (mkF m 63 #[.val (.ref a1), .val (.ref a2), .val (.double d3), .second, .val (.int (2 : Int32)), .unset, .unset] [(.double d3)])) (fun t k => XS.dloadN Xh202.here hx rfl (hb hby d4_62) rfl k) ?_
    refine own_pre (B := T201.setTop (mkF m 64 #[.val (.ref a1), .val (.ref a2), .val (.double d3), .second, .val (.int (2 : Int32)), .unset, .unset] [(.double (FP.l2d (0 : Int64))), (.double d3)])) (fun t k => XS.dconst0 Xh202.here hx rfl (hb hby d4_63) own_dc0 k) ?_
    refine own_pre (B := T201.setTop (mkF m 65 #[.val (.ref a1), .val (.ref a2), .val (.double d3), .second, .val (.int (2 : Int32)), .unset, .unset] [(.int (lcmpW kq (0 : Int64)))])) (fun t k => XS.dcmpS Xh202.here hx rfl (hb hby d4_64) rfl (own_cmp0d hd hk _) k) ?_
    obtain ⟨z203, hz203⟩ : ∃ z : Int32, z = (if (0 : Int64) < kq then (if (((0 : Int64) + ve1) + ((0 : Int64) + ve1)) < kq then (if ((((0 : Int64) + ve1) + ve0) + (((0 : Int64) + ve1) + ve0)) < kq then (0 : Int32) else (1 : Int32)) else (2 : Int32)) else (2 : Int32)) := ⟨_, rfl⟩
    obtain ⟨z206, hz206⟩ : ∃ z : UInt64, z = (if (0 : Int64) < kq then (if (((0 : Int64) + ve1) + ((0 : Int64) + ve1)) < kq then (if ((((0 : Int64) + ve1) + ve0) + (((0 : Int64) + ve1) + ve0)) < kq then (FP.l2d (((0 : Int64) + ve1) + ve0)) else (FP.l2d (((0 : Int64) + ve1) + ve0))) else x0) else x0) := ⟨_, rfl⟩
    obtain ⟨z207, hz207⟩ : ∃ z : UInt64, z = (if (0 : Int64) < kq then (if (((0 : Int64) + ve1) + ((0 : Int64) + ve1)) < kq then (if ((((0 : Int64) + ve1) + ve0) + (((0 : Int64) + ve1) + ve0)) < kq then (FP.l2d ((0 : Int64) + ve1)) else (FP.l2d ((0 : Int64) + ve1))) else (FP.l2d ((0 : Int64) + ve1))) else x1) := ⟨_, rfl⟩
    have K209 : Keep h0 h201 [a1, w_suffix_a1] := (Keep.wr K28j W201 msx)
    obtain ⟨_, ⟨T208, h208, L208, sl204, sl205, rfl, X208, e208, N208, K208j, j208_0, j208_1, j208_2, j208_3, j208_4, j208_5, j208_6, j208_7, j208_8, j208_9, j208_10, j208_11⟩, st208⟩ : own_J p.tables e below (fun B => ∃ (T' : State) (h' : Heap) (L' : List Loc) (sl204 sl205 : Slot), B = T'.setTop (mkF m 121 #[.val (.ref a1), .val (.ref a2), .val (.double d3), .second, .val (.int z203), sl204, sl205] []) ∧ Stand p l e ({ frames := 1, cells := 1, slots := 8, locals := 14 } : Room) s m #[(.ref a1), (.ref a2), (.double d3)] below meth c T' L' 1 8 ∧ T'.heap = h' ∧ Fr n0 L' ∧ Keep h0 h' [a1, w_suffix_a1] ∧ Exa Z h' a1 "com/example/nearjoin/nearjoin/join/PrefixCut" ∧ Fld Z h' a1 "com/example/nearjoin/nearjoin/join/PrefixCut" "bag" "[I" (.ref a2) ∧ Fld Z h' a1 "com/example/nearjoin/nearjoin/join/PrefixCut" "least" "D" (.double d3) ∧ Fld Z h' a1 "com/example/nearjoin/nearjoin/join/PrefixCut" "heavyCount" "I" (.int (-1 : Int32)) ∧ Fld Z h' a1 "com/example/nearjoin/nearjoin/join/PrefixCut" "lastLevel" "I" (.int (1 : Int32)) ∧ Fld Z h' a1 "com/example/nearjoin/nearjoin/join/PrefixCut" "weights" "[D" (.ref w_weights_a1) ∧ Fld Z h' a1 "com/example/nearjoin/nearjoin/join/PrefixCut" "firstLast" "I" (.int w_firstLast_a1) ∧ Fld Z h' a1 "com/example/nearjoin/nearjoin/join/PrefixCut" "last" "I" (.int w_last_a1) ∧ Fld Z h' a1 "com/example/nearjoin/nearjoin/join/PrefixCut" "suffix" "[D" (.ref sx) ∧ Arv Z h' w_weights_a1 k_w_weights_a1 .double (8 : Int32) [(.double (FP.l2d w0)), (.double (FP.l2d w1)), (.double (FP.l2d w2)), (.double (FP.l2d w3)), (.double (FP.l2d w4)), (.double (FP.l2d w5)), (.double (FP.l2d w6)), (.double (FP.l2d w7))] (.double (FP.l2d (0 : Int64))) ∧ Arv Z h' a2 k_a2 .int (2 : Int32) [(.int r0), (.int r1), (.int r2), (.int r3)] (.int (0 : Int32)) ∧ Arv Z h' sx kx .double nx [(.double z206), (.double z207), (.double (FP.l2d (0 : Int64))), (.double x3), (.double x4)] (.double (FP.l2d (0 : Int64)))) (T201.setTop (mkF m 65 #[.val (.ref a1), .val (.ref a2), .val (.double d3), .second, .val (.int (2 : Int32)), .unset, .unset] [(.int (lcmpW kq (0 : Int64)))])) := by
      by_cases hc65_210 : (0 : Int64) < kq
      · refine own_preJ (B := T201.setTop (mkF m 68 #[.val (.ref a1), .val (.ref a2), .val (.double d3), .second, .val (.int (2 : Int32)), .unset, .unset] [])) (fun t k => XS.ifNo Xh202.here hx rfl (hb hby d4_65) rfl ((if0 _ _).trans (tlt ((lw_gt kq (0 : Int64)).mpr hc65_210)).2.2.2) k) ?_
        refine own_preJ (B := T201.setTop (mkF m 70 #[.val (.ref a1), .val (.ref a2), .val (.double d3), .second, .val (.int (2 : Int32)), .unset, .unset] [(.int (2 : Int32))])) (fun t k => XS.iload Xh202.here hx rfl (hb hby d4_68) rfl k) ?_
        refine own_preJ (B := T201.setTop (mkF m 73 #[.val (.ref a1), .val (.ref a2), .val (.double d3), .second, .val (.int (2 : Int32)), .unset, .unset] [])) (fun t k => XS.ifNo Xh202.here hx rfl (hb hby d4_70) rfl ((if0 _ _).trans (tlt (by decide : (0 : Int32) < (2 : Int32))).2.2.2) k) ?_
        refine own_preJ (B := T201.setTop (mkF m 74 #[.val (.ref a1), .val (.ref a2), .val (.double d3), .second, .val (.int (2 : Int32)), .unset, .unset] [(.ref a1)])) (fun t k => XS.aloadN Xh202.here hx rfl (hb hby d4_73) rfl rfl k) ?_
        have c211 := (Fld.other W201 Fsx (Or.inl nesx0))
        obtain ⟨T212, X212, e212, st212⟩ := getF Xh202 hx hZ hown (host := "") (Or.inl (hw _ (ow 19 rfl))) Via.refl e201 c211 (g := (mkF m 74 #[.val (.ref a1), .val (.ref a2), .val (.double d3), .second, .val (.int (2 : Int32)), .unset, .unset] [(.ref a1)])) rfl rfl (hb hby d4_74)
        refine own_preJ (B := T212.setTop (mkF m 77 #[.val (.ref a1), .val (.ref a2), .val (.double d3), .second, .val (.int (2 : Int32)), .unset, .unset] [(.ref sx)])) (fun t k => st212 t k) ?_
        refine own_preJ (B := T212.setTop (mkF m 79 #[.val (.ref a1), .val (.ref a2), .val (.double d3), .second, .val (.int (2 : Int32)), .unset, .unset] [(.int (2 : Int32)), (.ref sx)])) (fun t k => XS.iload X212.here hx rfl (hb hby d4_77) rfl k) ?_
        obtain ⟨cl213, Ar213, q213, S213, N213v, H213v, G213v⟩ := V201
        have V201 : Arv Z h201 sx kx .double nx [(.double x0), (.double x1), (.double (FP.l2d (0 : Int64))), (.double x3), (.double x4)] (.double (FP.l2d (0 : Int64))) := ⟨cl213, Ar213, q213, S213, N213v, H213v, G213v⟩
        have hin213 : ¬ ((2 : Int32) < 0 ∨ cl213.slots.size ≤ ((2 : Int32)).toNatClampNeg) := inb_of S213 ⟨by decide, own_ltle hlt (by decide)⟩
        have hat213 : cl213.slots[((2 : Int32)).toNatClampNeg]? = some (.double (FP.l2d (0 : Int64))) := H213v.at hin213 rfl
        refine own_preJ (B := T212.setTop (mkF m 80 #[.val (.ref a1), .val (.ref a2), .val (.double d3), .second, .val (.int (2 : Int32)), .unset, .unset] [(.double (FP.l2d (0 : Int64)))])) (fun t k => X212.daload hx (j := (2 : Int32)) (v := (.double (FP.l2d (0 : Int64)))) (by rw [e212]; exact Ar213.1) (State.isArrayOf_alike hZ.alike Ar213.2.1) Ar213.2.2 hin213 hat213 (g := (mkF m 79 #[.val (.ref a1), .val (.ref a2), .val (.double d3), .second, .val (.int (2 : Int32)), .unset, .unset] [(.int (2 : Int32)), (.ref sx)])) rfl rfl (hb hby d4_79) t k) ?_
        refine own_preJ (B := T212.setTop (mkF m 81 #[.val (.ref a1), .val (.ref a2), .val (.double d3), .second, .val (.int (2 : Int32)), .unset, .unset] [(.ref a1), (.double (FP.l2d (0 : Int64)))])) (fun t k => XS.aloadN X212.here hx rfl (hb hby d4_80) rfl rfl k) ?_
        have c214 := (Fld.other W201 j28_5 (Or.inl nesx0))
        obtain ⟨T215, X215, e215, st215⟩ := getF X212 hx hZ hown (host := "") (Or.inl (hw _ (ow 25 rfl))) Via.refl e212 c214 (g := (mkF m 81 #[.val (.ref a1), .val (.ref a2), .val (.double d3), .second, .val (.int (2 : Int32)), .unset, .unset] [(.ref a1), (.double (FP.l2d (0 : Int64)))])) rfl rfl (hb hby d4_81)
        refine own_preJ (B := T215.setTop (mkF m 84 #[.val (.ref a1), .val (.ref a2), .val (.double d3), .second, .val (.int (2 : Int32)), .unset, .unset] [(.ref w_weights_a1), (.double (FP.l2d (0 : Int64)))])) (fun t k => st215 t k) ?_
        refine own_preJ (B := T215.setTop (mkF m 85 #[.val (.ref a1), .val (.ref a2), .val (.double d3), .second, .val (.int (2 : Int32)), .unset, .unset] [(.ref a2), (.ref w_weights_a1), (.double (FP.l2d (0 : Int64)))])) (fun t k => XS.aloadN X215.here hx rfl (hb hby d4_84) rfl rfl k) ?_
        refine own_preJ (B := T215.setTop (mkF m 87 #[.val (.ref a1), .val (.ref a2), .val (.double d3), .second, .val (.int (2 : Int32)), .unset, .unset] [(.int (2 : Int32)), (.ref a2), (.ref w_weights_a1), (.double (FP.l2d (0 : Int64)))])) (fun t k => XS.iload X215.here hx rfl (hb hby d4_85) rfl k) ?_
        refine own_preJ (B := T215.setTop (mkF m 88 #[.val (.ref a1), .val (.ref a2), .val (.double d3), .second, .val (.int (2 : Int32)), .unset, .unset] [(.int (1 : Int32)), (.int (2 : Int32)), (.ref a2), (.ref w_weights_a1), (.double (FP.l2d (0 : Int64)))])) (fun t k => XS.iconst X215.here hx rfl (hb hby d4_87) k) ?_
        refine own_preJ (B := T215.setTop (mkF m 89 #[.val (.ref a1), .val (.ref a2), .val (.double d3), .second, .val (.int (2 : Int32)), .unset, .unset] [(.int (1 : Int32)), (.ref a2), (.ref w_weights_a1), (.double (FP.l2d (0 : Int64)))])) (fun t k => XS.isub X215.here hx rfl (hb hby d4_88) rfl k) ?_
        have c216 := (Arv.other j28_9 W201 nesx2)
        obtain ⟨cl217, Ar217, q217, S217, N217v, H217v, G217v⟩ := c216
        have c216 : Arv Z h201 a2 k_a2 .int (2 : Int32) [(.int r0), (.int r1), (.int r2), (.int r3)] (.int (0 : Int32)) := ⟨cl217, Ar217, q217, S217, N217v, H217v, G217v⟩
        have hin217 : ¬ ((1 : Int32) < 0 ∨ cl217.slots.size ≤ ((1 : Int32)).toNatClampNeg) := inb_of S217 ⟨by decide, by decide⟩
        have hat217 : cl217.slots[((1 : Int32)).toNatClampNeg]? = some (.int r1) := H217v.at hin217 rfl
        refine own_preJ (B := T215.setTop (mkF m 90 #[.val (.ref a1), .val (.ref a2), .val (.double d3), .second, .val (.int (2 : Int32)), .unset, .unset] [(.int r1), (.ref w_weights_a1), (.double (FP.l2d (0 : Int64)))])) (fun t k => X215.iaload hx (j := (1 : Int32)) (v := (.int r1)) (by rw [e215]; exact Ar217.1) (State.isArrayOf_alike hZ.alike Ar217.2.1) Ar217.2.2 hin217 hat217 (g := (mkF m 89 #[.val (.ref a1), .val (.ref a2), .val (.double d3), .second, .val (.int (2 : Int32)), .unset, .unset] [(.int (1 : Int32)), (.ref a2), (.ref w_weights_a1), (.double (FP.l2d (0 : Int64)))])) rfl rfl (hb hby d4_89) t k) ?_
        have c218 := (Arv.other j28_8 W201 nesx1)
        obtain ⟨cl219, Ar219, q219, S219, N219v, H219v, G219v⟩ := c218
        have c218 : Arv Z h201 w_weights_a1 k_w_weights_a1 .double (8 : Int32) [(.double (FP.l2d w0)), (.double (FP.l2d w1)), (.double (FP.l2d w2)), (.double (FP.l2d w3)), (.double (FP.l2d w4)), (.double (FP.l2d w5)), (.double (FP.l2d w6)), (.double (FP.l2d w7))] (.double (FP.l2d (0 : Int64))) := ⟨cl219, Ar219, q219, S219, N219v, H219v, G219v⟩
        have hin219 : ¬ (r1 < 0 ∨ cl219.slots.size ≤ (r1).toNatClampNeg) := inb_of S219 hR1
        have hat219 : cl219.slots[(r1).toNatClampNeg]? = some (.double (FP.l2d ve1)) := H219v.at hin219 (own_getE hR1 hE1)
        refine own_preJ (B := T215.setTop (mkF m 91 #[.val (.ref a1), .val (.ref a2), .val (.double d3), .second, .val (.int (2 : Int32)), .unset, .unset] [(.double (FP.l2d ve1)), (.double (FP.l2d (0 : Int64)))])) (fun t k => X215.daload hx (j := r1) (v := (.double (FP.l2d ve1))) (by rw [e215]; exact Ar219.1) (State.isArrayOf_alike hZ.alike Ar219.2.1) Ar219.2.2 hin219 hat219 (g := (mkF m 90 #[.val (.ref a1), .val (.ref a2), .val (.double d3), .second, .val (.int (2 : Int32)), .unset, .unset] [(.int r1), (.ref w_weights_a1), (.double (FP.l2d (0 : Int64)))])) rfl rfl (hb hby d4_90) t k) ?_
        refine own_preJ (B := T215.setTop (mkF m 92 #[.val (.ref a1), .val (.ref a2), .val (.double d3), .second, .val (.int (2 : Int32)), .unset, .unset] [(.double (FP.l2d ((0 : Int64) + ve1)))])) (fun t k => XS.daddS X215.here hx rfl (hb hby d4_91) rfl (nn_w (own_add own_B0 hB1 (by decide))) (own_add own_B0 hB1 (by decide)) k) ?_
        refine own_preJ (B := T215.setTop (mkF m 94 #[.val (.ref a1), .val (.ref a2), .val (.double d3), .second, .val (.int (2 : Int32)), .val (.double (FP.l2d ((0 : Int64) + ve1))), .second] [])) (fun t k => XS.dstore X215.here hx rfl (hb hby d4_92) rfl (l' := #[.val (.ref a1), .val (.ref a2), .val (.double d3), .second, .val (.int (2 : Int32)), .val (.double (FP.l2d ((0 : Int64) + ve1))), .second]) rfl k) ?_
        refine own_preJ (B := T215.setTop (mkF m 95 #[.val (.ref a1), .val (.ref a2), .val (.double d3), .second, .val (.int (2 : Int32)), .val (.double (FP.l2d ((0 : Int64) + ve1))), .second] [(.ref a1)])) (fun t k => XS.aloadN X215.here hx rfl (hb hby d4_94) rfl rfl k) ?_
        obtain ⟨T220, X220, e220, st220⟩ := getF X215 hx hZ hown (host := "") (Or.inl (hw _ (ow 19 rfl))) Via.refl e215 c211 (g := (mkF m 95 #[.val (.ref a1), .val (.ref a2), .val (.double d3), .second, .val (.int (2 : Int32)), .val (.double (FP.l2d ((0 : Int64) + ve1))), .second] [(.ref a1)])) rfl rfl (hb hby d4_95)
        refine own_preJ (B := T220.setTop (mkF m 98 #[.val (.ref a1), .val (.ref a2), .val (.double d3), .second, .val (.int (2 : Int32)), .val (.double (FP.l2d ((0 : Int64) + ve1))), .second] [(.ref sx)])) (fun t k => st220 t k) ?_
        refine own_preJ (B := T220.setTop (mkF m 100 #[.val (.ref a1), .val (.ref a2), .val (.double d3), .second, .val (.int (2 : Int32)), .val (.double (FP.l2d ((0 : Int64) + ve1))), .second] [(.int (2 : Int32)), (.ref sx)])) (fun t k => XS.iload X220.here hx rfl (hb hby d4_98) rfl k) ?_
        refine own_preJ (B := T220.setTop (mkF m 101 #[.val (.ref a1), .val (.ref a2), .val (.double d3), .second, .val (.int (2 : Int32)), .val (.double (FP.l2d ((0 : Int64) + ve1))), .second] [(.int (1 : Int32)), (.int (2 : Int32)), (.ref sx)])) (fun t k => XS.iconst X220.here hx rfl (hb hby d4_100) k) ?_
        refine own_preJ (B := T220.setTop (mkF m 102 #[.val (.ref a1), .val (.ref a2), .val (.double d3), .second, .val (.int (2 : Int32)), .val (.double (FP.l2d ((0 : Int64) + ve1))), .second] [(.int (1 : Int32)), (.ref sx)])) (fun t k => XS.isub X220.here hx rfl (hb hby d4_101) rfl k) ?_
        refine own_preJ (B := T220.setTop (mkF m 104 #[.val (.ref a1), .val (.ref a2), .val (.double d3), .second, .val (.int (2 : Int32)), .val (.double (FP.l2d ((0 : Int64) + ve1))), .second] [(.double (FP.l2d ((0 : Int64) + ve1))), (.int (1 : Int32)), (.ref sx)])) (fun t k => XS.dload X220.here hx rfl (hb hby d4_102) rfl k) ?_
        obtain ⟨cl221, Ar221, q221, S221, N221v, H221v, G221v⟩ := V201
        have V201 : Arv Z h201 sx kx .double nx [(.double x0), (.double x1), (.double (FP.l2d (0 : Int64))), (.double x3), (.double x4)] (.double (FP.l2d (0 : Int64))) := ⟨cl221, Ar221, q221, S221, N221v, H221v, G221v⟩
        have hin221 : ¬ ((1 : Int32) < 0 ∨ cl221.slots.size ≤ ((1 : Int32)).toNatClampNeg) := inb_of S221 ⟨by decide, own_ltle hlt (by decide)⟩
        obtain ⟨T222, h222, X222, e222, W222, st222⟩ := stD X220 hx hZ e220 Ar221 (j := (1 : Int32)) hin221 (g := (mkF m 104 #[.val (.ref a1), .val (.ref a2), .val (.double d3), .second, .val (.int (2 : Int32)), .val (.double (FP.l2d ((0 : Int64) + ve1))), .second] [(.double (FP.l2d ((0 : Int64) + ve1))), (.int (1 : Int32)), (.ref sx)])) rfl rfl (hb hby d4_104)
        have V222 : Arv Z h222 sx kx .double nx [(.double x0), (.double (FP.l2d ((0 : Int64) + ve1))), (.double (FP.l2d (0 : Int64))), (.double x3), (.double x4)] (.double (FP.l2d (0 : Int64))) := Arv.set Ar221 q221 S221 N221v H221v G221v rfl W222 1 rfl (Nat.le_of_ble_eq_true rfl)
        have N222 := Fr.snoc X222 Nh202 gsx
        obtain ⟨Lh223, Xh223, Nh223⟩ := own_hide X222 N222
        refine own_preJ (B := T222.setTop (mkF m 105 #[.val (.ref a1), .val (.ref a2), .val (.double d3), .second, .val (.int (2 : Int32)), .val (.double (FP.l2d ((0 : Int64) + ve1))), .second] [])) (fun t k => st222 t k) ?_
        refine own_preJ (B := T222.setTop (mkF m 107 #[.val (.ref a1), .val (.ref a2), .val (.double d3), .second, .val (.int (2 : Int32)), .val (.double (FP.l2d ((0 : Int64) + ve1))), .second] [(.double (FP.l2d ((0 : Int64) + ve1)))])) (fun t k => XS.dload Xh223.here hx rfl (hb hby d4_105) rfl k) ?_
        refine own_preJ (B := T222.setTop (mkF m 108 #[.val (.ref a1), .val (.ref a2), .val (.double d3), .second, .val (.int (2 : Int32)), .val (.double (FP.l2d ((0 : Int64) + ve1))), .second] [(.double d3), (.double (FP.l2d ((0 : Int64) + ve1)))])) (fun t k => XS.dloadN Xh223.here hx rfl (hb hby d4_107) rfl k) ?_
        refine own_preJ (B := T222.setTop (mkF m 109 #[.val (.ref a1), .val (.ref a2), .val (.double d3), .second, .val (.int (2 : Int32)), .val (.double (FP.l2d ((0 : Int64) + ve1))), .second] [(.int (lcmpW (((0 : Int64) + ve1) + ((0 : Int64) + ve1)) kq))])) (fun t k => XS.dcmpS Xh223.here hx rfl (hb hby d4_108) rfl (own_cmpd hd (own_Badd own_B0 hB1 (by decide)) (by decide) hk _) k) ?_
        by_cases hc109_224 : (((0 : Int64) + ve1) + ((0 : Int64) + ve1)) < kq
        · refine own_preJ (B := T222.setTop (mkF m 115 #[.val (.ref a1), .val (.ref a2), .val (.double d3), .second, .val (.int (2 : Int32)), .val (.double (FP.l2d ((0 : Int64) + ve1))), .second] [])) (fun t k => XS.ifYes Xh223.here hx rfl (pc0 := 109) (pc' := 115) rfl (hb hby d4_109) rfl ((if0 _ _).trans (tlt ((lw_lt (((0 : Int64) + ve1) + ((0 : Int64) + ve1)) kq).mpr hc109_224)).1) (by decide) (by decide) k) ?_
          refine own_preJ (B := T222.setTop (mkF m 118 #[.val (.ref a1), .val (.ref a2), .val (.double d3), .second, .val (.int (1 : Int32)), .val (.double (FP.l2d ((0 : Int64) + ve1))), .second] [])) (fun t k => XS.iinc Xh223.here hx rfl (hb hby d4_115) rfl (l' := #[.val (.ref a1), .val (.ref a2), .val (.double d3), .second, .val (.int (1 : Int32)), .val (.double (FP.l2d ((0 : Int64) + ve1))), .second]) rfl k) ?_
          refine own_preJ (B := T222.setTop (mkF m 68 #[.val (.ref a1), .val (.ref a2), .val (.double d3), .second, .val (.int (1 : Int32)), .val (.double (FP.l2d ((0 : Int64) + ve1))), .second] [])) (fun t k => XS.goto Xh223.here hx rfl (pc0 := 118) (pc' := 68) rfl (hb hby d4_118) (by decide) (by decide) k) ?_
          refine own_preJ (B := T222.setTop (mkF m 70 #[.val (.ref a1), .val (.ref a2), .val (.double d3), .second, .val (.int (1 : Int32)), .val (.double (FP.l2d ((0 : Int64) + ve1))), .second] [(.int (1 : Int32))])) (fun t k => XS.iload Xh223.here hx rfl (hb hby d4_68) rfl k) ?_
          refine own_preJ (B := T222.setTop (mkF m 73 #[.val (.ref a1), .val (.ref a2), .val (.double d3), .second, .val (.int (1 : Int32)), .val (.double (FP.l2d ((0 : Int64) + ve1))), .second] [])) (fun t k => XS.ifNo Xh223.here hx rfl (hb hby d4_70) rfl ((if0 _ _).trans (tlt (by decide : (0 : Int32) < (1 : Int32))).2.2.2) k) ?_
          refine own_preJ (B := T222.setTop (mkF m 74 #[.val (.ref a1), .val (.ref a2), .val (.double d3), .second, .val (.int (1 : Int32)), .val (.double (FP.l2d ((0 : Int64) + ve1))), .second] [(.ref a1)])) (fun t k => XS.aloadN Xh223.here hx rfl (hb hby d4_73) rfl rfl k) ?_
          have c225 := (Fld.other W222 c211 (Or.inl nesx0))
          obtain ⟨T226, X226, e226, st226⟩ := getF Xh223 hx hZ hown (host := "") (Or.inl (hw _ (ow 19 rfl))) Via.refl e222 c225 (g := (mkF m 74 #[.val (.ref a1), .val (.ref a2), .val (.double d3), .second, .val (.int (1 : Int32)), .val (.double (FP.l2d ((0 : Int64) + ve1))), .second] [(.ref a1)])) rfl rfl (hb hby d4_74)
          refine own_preJ (B := T226.setTop (mkF m 77 #[.val (.ref a1), .val (.ref a2), .val (.double d3), .second, .val (.int (1 : Int32)), .val (.double (FP.l2d ((0 : Int64) + ve1))), .second] [(.ref sx)])) (fun t k => st226 t k) ?_
          refine own_preJ (B := T226.setTop (mkF m 79 #[.val (.ref a1), .val (.ref a2), .val (.double d3), .second, .val (.int (1 : Int32)), .val (.double (FP.l2d ((0 : Int64) + ve1))), .second] [(.int (1 : Int32)), (.ref sx)])) (fun t k => XS.iload X226.here hx rfl (hb hby d4_77) rfl k) ?_
          obtain ⟨cl227, Ar227, q227, S227, N227v, H227v, G227v⟩ := V222
          have V222 : Arv Z h222 sx kx .double nx [(.double x0), (.double (FP.l2d ((0 : Int64) + ve1))), (.double (FP.l2d (0 : Int64))), (.double x3), (.double x4)] (.double (FP.l2d (0 : Int64))) := ⟨cl227, Ar227, q227, S227, N227v, H227v, G227v⟩
          have hin227 : ¬ ((1 : Int32) < 0 ∨ cl227.slots.size ≤ ((1 : Int32)).toNatClampNeg) := inb_of S227 ⟨by decide, own_ltle hlt (by decide)⟩
          have hat227 : cl227.slots[((1 : Int32)).toNatClampNeg]? = some (.double (FP.l2d ((0 : Int64) + ve1))) := H227v.at hin227 rfl
          refine own_preJ (B := T226.setTop (mkF m 80 #[.val (.ref a1), .val (.ref a2), .val (.double d3), .second, .val (.int (1 : Int32)), .val (.double (FP.l2d ((0 : Int64) + ve1))), .second] [(.double (FP.l2d ((0 : Int64) + ve1)))])) (fun t k => X226.daload hx (j := (1 : Int32)) (v := (.double (FP.l2d ((0 : Int64) + ve1)))) (by rw [e226]; exact Ar227.1) (State.isArrayOf_alike hZ.alike Ar227.2.1) Ar227.2.2 hin227 hat227 (g := (mkF m 79 #[.val (.ref a1), .val (.ref a2), .val (.double d3), .second, .val (.int (1 : Int32)), .val (.double (FP.l2d ((0 : Int64) + ve1))), .second] [(.int (1 : Int32)), (.ref sx)])) rfl rfl (hb hby d4_79) t k) ?_
          refine own_preJ (B := T226.setTop (mkF m 81 #[.val (.ref a1), .val (.ref a2), .val (.double d3), .second, .val (.int (1 : Int32)), .val (.double (FP.l2d ((0 : Int64) + ve1))), .second] [(.ref a1), (.double (FP.l2d ((0 : Int64) + ve1)))])) (fun t k => XS.aloadN X226.here hx rfl (hb hby d4_80) rfl rfl k) ?_
          have c228 := (Fld.other W222 c214 (Or.inl nesx0))
          obtain ⟨T229, X229, e229, st229⟩ := getF X226 hx hZ hown (host := "") (Or.inl (hw _ (ow 25 rfl))) Via.refl e226 c228 (g := (mkF m 81 #[.val (.ref a1), .val (.ref a2), .val (.double d3), .second, .val (.int (1 : Int32)), .val (.double (FP.l2d ((0 : Int64) + ve1))), .second] [(.ref a1), (.double (FP.l2d ((0 : Int64) + ve1)))])) rfl rfl (hb hby d4_81)
          refine own_preJ (B := T229.setTop (mkF m 84 #[.val (.ref a1), .val (.ref a2), .val (.double d3), .second, .val (.int (1 : Int32)), .val (.double (FP.l2d ((0 : Int64) + ve1))), .second] [(.ref w_weights_a1), (.double (FP.l2d ((0 : Int64) + ve1)))])) (fun t k => st229 t k) ?_
          refine own_preJ (B := T229.setTop (mkF m 85 #[.val (.ref a1), .val (.ref a2), .val (.double d3), .second, .val (.int (1 : Int32)), .val (.double (FP.l2d ((0 : Int64) + ve1))), .second] [(.ref a2), (.ref w_weights_a1), (.double (FP.l2d ((0 : Int64) + ve1)))])) (fun t k => XS.aloadN X229.here hx rfl (hb hby d4_84) rfl rfl k) ?_
          refine own_preJ (B := T229.setTop (mkF m 87 #[.val (.ref a1), .val (.ref a2), .val (.double d3), .second, .val (.int (1 : Int32)), .val (.double (FP.l2d ((0 : Int64) + ve1))), .second] [(.int (1 : Int32)), (.ref a2), (.ref w_weights_a1), (.double (FP.l2d ((0 : Int64) + ve1)))])) (fun t k => XS.iload X229.here hx rfl (hb hby d4_85) rfl k) ?_
          refine own_preJ (B := T229.setTop (mkF m 88 #[.val (.ref a1), .val (.ref a2), .val (.double d3), .second, .val (.int (1 : Int32)), .val (.double (FP.l2d ((0 : Int64) + ve1))), .second] [(.int (1 : Int32)), (.int (1 : Int32)), (.ref a2), (.ref w_weights_a1), (.double (FP.l2d ((0 : Int64) + ve1)))])) (fun t k => XS.iconst X229.here hx rfl (hb hby d4_87) k) ?_
          refine own_preJ (B := T229.setTop (mkF m 89 #[.val (.ref a1), .val (.ref a2), .val (.double d3), .second, .val (.int (1 : Int32)), .val (.double (FP.l2d ((0 : Int64) + ve1))), .second] [(.int (0 : Int32)), (.ref a2), (.ref w_weights_a1), (.double (FP.l2d ((0 : Int64) + ve1)))])) (fun t k => XS.isub X229.here hx rfl (hb hby d4_88) rfl k) ?_
          have c230 := (Arv.other c216 W222 nesx2)
          obtain ⟨cl231, Ar231, q231, S231, N231v, H231v, G231v⟩ := c230
          have c230 : Arv Z h222 a2 k_a2 .int (2 : Int32) [(.int r0), (.int r1), (.int r2), (.int r3)] (.int (0 : Int32)) := ⟨cl231, Ar231, q231, S231, N231v, H231v, G231v⟩
          have hin231 : ¬ ((0 : Int32) < 0 ∨ cl231.slots.size ≤ ((0 : Int32)).toNatClampNeg) := inb_of S231 ⟨by decide, by decide⟩
          have hat231 : cl231.slots[((0 : Int32)).toNatClampNeg]? = some (.int r0) := H231v.at hin231 rfl
          refine own_preJ (B := T229.setTop (mkF m 90 #[.val (.ref a1), .val (.ref a2), .val (.double d3), .second, .val (.int (1 : Int32)), .val (.double (FP.l2d ((0 : Int64) + ve1))), .second] [(.int r0), (.ref w_weights_a1), (.double (FP.l2d ((0 : Int64) + ve1)))])) (fun t k => X229.iaload hx (j := (0 : Int32)) (v := (.int r0)) (by rw [e229]; exact Ar231.1) (State.isArrayOf_alike hZ.alike Ar231.2.1) Ar231.2.2 hin231 hat231 (g := (mkF m 89 #[.val (.ref a1), .val (.ref a2), .val (.double d3), .second, .val (.int (1 : Int32)), .val (.double (FP.l2d ((0 : Int64) + ve1))), .second] [(.int (0 : Int32)), (.ref a2), (.ref w_weights_a1), (.double (FP.l2d ((0 : Int64) + ve1)))])) rfl rfl (hb hby d4_89) t k) ?_
          have c232 := (Arv.other c218 W222 nesx1)
          obtain ⟨cl233, Ar233, q233, S233, N233v, H233v, G233v⟩ := c232
          have c232 : Arv Z h222 w_weights_a1 k_w_weights_a1 .double (8 : Int32) [(.double (FP.l2d w0)), (.double (FP.l2d w1)), (.double (FP.l2d w2)), (.double (FP.l2d w3)), (.double (FP.l2d w4)), (.double (FP.l2d w5)), (.double (FP.l2d w6)), (.double (FP.l2d w7))] (.double (FP.l2d (0 : Int64))) := ⟨cl233, Ar233, q233, S233, N233v, H233v, G233v⟩
          have hin233 : ¬ (r0 < 0 ∨ cl233.slots.size ≤ (r0).toNatClampNeg) := inb_of S233 hR0
          have hat233 : cl233.slots[(r0).toNatClampNeg]? = some (.double (FP.l2d ve0)) := H233v.at hin233 (own_getE hR0 hE0)
          refine own_preJ (B := T229.setTop (mkF m 91 #[.val (.ref a1), .val (.ref a2), .val (.double d3), .second, .val (.int (1 : Int32)), .val (.double (FP.l2d ((0 : Int64) + ve1))), .second] [(.double (FP.l2d ve0)), (.double (FP.l2d ((0 : Int64) + ve1)))])) (fun t k => X229.daload hx (j := r0) (v := (.double (FP.l2d ve0))) (by rw [e229]; exact Ar233.1) (State.isArrayOf_alike hZ.alike Ar233.2.1) Ar233.2.2 hin233 hat233 (g := (mkF m 90 #[.val (.ref a1), .val (.ref a2), .val (.double d3), .second, .val (.int (1 : Int32)), .val (.double (FP.l2d ((0 : Int64) + ve1))), .second] [(.int r0), (.ref w_weights_a1), (.double (FP.l2d ((0 : Int64) + ve1)))])) rfl rfl (hb hby d4_90) t k) ?_
          refine own_preJ (B := T229.setTop (mkF m 92 #[.val (.ref a1), .val (.ref a2), .val (.double d3), .second, .val (.int (1 : Int32)), .val (.double (FP.l2d ((0 : Int64) + ve1))), .second] [(.double (FP.l2d (((0 : Int64) + ve1) + ve0)))])) (fun t k => XS.daddS X229.here hx rfl (hb hby d4_91) rfl (nn_w (own_add (own_Badd own_B0 hB1 (by decide)) hB0 (by decide))) (own_add (own_Badd own_B0 hB1 (by decide)) hB0 (by decide)) k) ?_
          refine own_preJ (B := T229.setTop (mkF m 94 #[.val (.ref a1), .val (.ref a2), .val (.double d3), .second, .val (.int (1 : Int32)), .val (.double (FP.l2d (((0 : Int64) + ve1) + ve0))), .second] [])) (fun t k => XS.dstore X229.here hx rfl (hb hby d4_92) rfl (l' := #[.val (.ref a1), .val (.ref a2), .val (.double d3), .second, .val (.int (1 : Int32)), .val (.double (FP.l2d (((0 : Int64) + ve1) + ve0))), .second]) rfl k) ?_
          refine own_preJ (B := T229.setTop (mkF m 95 #[.val (.ref a1), .val (.ref a2), .val (.double d3), .second, .val (.int (1 : Int32)), .val (.double (FP.l2d (((0 : Int64) + ve1) + ve0))), .second] [(.ref a1)])) (fun t k => XS.aloadN X229.here hx rfl (hb hby d4_94) rfl rfl k) ?_
          obtain ⟨T234, X234, e234, st234⟩ := getF X229 hx hZ hown (host := "") (Or.inl (hw _ (ow 19 rfl))) Via.refl e229 c225 (g := (mkF m 95 #[.val (.ref a1), .val (.ref a2), .val (.double d3), .second, .val (.int (1 : Int32)), .val (.double (FP.l2d (((0 : Int64) + ve1) + ve0))), .second] [(.ref a1)])) rfl rfl (hb hby d4_95)
          refine own_preJ (B := T234.setTop (mkF m 98 #[.val (.ref a1), .val (.ref a2), .val (.double d3), .second, .val (.int (1 : Int32)), .val (.double (FP.l2d (((0 : Int64) + ve1) + ve0))), .second] [(.ref sx)])) (fun t k => st234 t k) ?_
          refine own_preJ (B := T234.setTop (mkF m 100 #[.val (.ref a1), .val (.ref a2), .val (.double d3), .second, .val (.int (1 : Int32)), .val (.double (FP.l2d (((0 : Int64) + ve1) + ve0))), .second] [(.int (1 : Int32)), (.ref sx)])) (fun t k => XS.iload X234.here hx rfl (hb hby d4_98) rfl k) ?_
          refine own_preJ (B := T234.setTop (mkF m 101 #[.val (.ref a1), .val (.ref a2), .val (.double d3), .second, .val (.int (1 : Int32)), .val (.double (FP.l2d (((0 : Int64) + ve1) + ve0))), .second] [(.int (1 : Int32)), (.int (1 : Int32)), (.ref sx)])) (fun t k => XS.iconst X234.here hx rfl (hb hby d4_100) k) ?_
          refine own_preJ (B := T234.setTop (mkF m 102 #[.val (.ref a1), .val (.ref a2), .val (.double d3), .second, .val (.int (1 : Int32)), .val (.double (FP.l2d (((0 : Int64) + ve1) + ve0))), .second] [(.int (0 : Int32)), (.ref sx)])) (fun t k => XS.isub X234.here hx rfl (hb hby d4_101) rfl k) ?_
          refine own_preJ (B := T234.setTop (mkF m 104 #[.val (.ref a1), .val (.ref a2), .val (.double d3), .second, .val (.int (1 : Int32)), .val (.double (FP.l2d (((0 : Int64) + ve1) + ve0))), .second] [(.double (FP.l2d (((0 : Int64) + ve1) + ve0))), (.int (0 : Int32)), (.ref sx)])) (fun t k => XS.dload X234.here hx rfl (hb hby d4_102) rfl k) ?_
          have K235 : Keep h0 h222 [a1, w_suffix_a1] := (Keep.wr K209 W222 msx)
          obtain ⟨cl236, Ar236, q236, S236, N236v, H236v, G236v⟩ := V222
          have V222 : Arv Z h222 sx kx .double nx [(.double x0), (.double (FP.l2d ((0 : Int64) + ve1))), (.double (FP.l2d (0 : Int64))), (.double x3), (.double x4)] (.double (FP.l2d (0 : Int64))) := ⟨cl236, Ar236, q236, S236, N236v, H236v, G236v⟩
          have hin236 : ¬ ((0 : Int32) < 0 ∨ cl236.slots.size ≤ ((0 : Int32)).toNatClampNeg) := inb_of S236 ⟨by decide, own_ltle hlt (by decide)⟩
          obtain ⟨T237, h237, X237, e237, W237, st237⟩ := stD X234 hx hZ e234 Ar236 (j := (0 : Int32)) hin236 (g := (mkF m 104 #[.val (.ref a1), .val (.ref a2), .val (.double d3), .second, .val (.int (1 : Int32)), .val (.double (FP.l2d (((0 : Int64) + ve1) + ve0))), .second] [(.double (FP.l2d (((0 : Int64) + ve1) + ve0))), (.int (0 : Int32)), (.ref sx)])) rfl rfl (hb hby d4_104)
          have V237 : Arv Z h237 sx kx .double nx [(.double (FP.l2d (((0 : Int64) + ve1) + ve0))), (.double (FP.l2d ((0 : Int64) + ve1))), (.double (FP.l2d (0 : Int64))), (.double x3), (.double x4)] (.double (FP.l2d (0 : Int64))) := Arv.set Ar236 q236 S236 N236v H236v G236v rfl W237 0 rfl (Nat.le_of_ble_eq_true rfl)
          have N237 := Fr.snoc X237 Nh223 gsx
          obtain ⟨Lh238, Xh238, Nh238⟩ := own_hide X237 N237
          refine own_preJ (B := T237.setTop (mkF m 105 #[.val (.ref a1), .val (.ref a2), .val (.double d3), .second, .val (.int (1 : Int32)), .val (.double (FP.l2d (((0 : Int64) + ve1) + ve0))), .second] [])) (fun t k => st237 t k) ?_
          refine own_preJ (B := T237.setTop (mkF m 107 #[.val (.ref a1), .val (.ref a2), .val (.double d3), .second, .val (.int (1 : Int32)), .val (.double (FP.l2d (((0 : Int64) + ve1) + ve0))), .second] [(.double (FP.l2d (((0 : Int64) + ve1) + ve0)))])) (fun t k => XS.dload Xh238.here hx rfl (hb hby d4_105) rfl k) ?_
          refine own_preJ (B := T237.setTop (mkF m 108 #[.val (.ref a1), .val (.ref a2), .val (.double d3), .second, .val (.int (1 : Int32)), .val (.double (FP.l2d (((0 : Int64) + ve1) + ve0))), .second] [(.double d3), (.double (FP.l2d (((0 : Int64) + ve1) + ve0)))])) (fun t k => XS.dloadN Xh238.here hx rfl (hb hby d4_107) rfl k) ?_
          refine own_preJ (B := T237.setTop (mkF m 109 #[.val (.ref a1), .val (.ref a2), .val (.double d3), .second, .val (.int (1 : Int32)), .val (.double (FP.l2d (((0 : Int64) + ve1) + ve0))), .second] [(.int (lcmpW ((((0 : Int64) + ve1) + ve0) + (((0 : Int64) + ve1) + ve0)) kq))])) (fun t k => XS.dcmpS Xh238.here hx rfl (hb hby d4_108) rfl (own_cmpd hd (own_Badd (own_Badd own_B0 hB1 (by decide)) hB0 (by decide)) (by decide) hk _) k) ?_
          by_cases hc109_239 : ((((0 : Int64) + ve1) + ve0) + (((0 : Int64) + ve1) + ve0)) < kq
          · refine own_preJ (B := T237.setTop (mkF m 115 #[.val (.ref a1), .val (.ref a2), .val (.double d3), .second, .val (.int (1 : Int32)), .val (.double (FP.l2d (((0 : Int64) + ve1) + ve0))), .second] [])) (fun t k => XS.ifYes Xh238.here hx rfl (pc0 := 109) (pc' := 115) rfl (hb hby d4_109) rfl ((if0 _ _).trans (tlt ((lw_lt ((((0 : Int64) + ve1) + ve0) + (((0 : Int64) + ve1) + ve0)) kq).mpr hc109_239)).1) (by decide) (by decide) k) ?_
            refine own_preJ (B := T237.setTop (mkF m 118 #[.val (.ref a1), .val (.ref a2), .val (.double d3), .second, .val (.int (0 : Int32)), .val (.double (FP.l2d (((0 : Int64) + ve1) + ve0))), .second] [])) (fun t k => XS.iinc Xh238.here hx rfl (hb hby d4_115) rfl (l' := #[.val (.ref a1), .val (.ref a2), .val (.double d3), .second, .val (.int (0 : Int32)), .val (.double (FP.l2d (((0 : Int64) + ve1) + ve0))), .second]) rfl k) ?_
            refine own_preJ (B := T237.setTop (mkF m 68 #[.val (.ref a1), .val (.ref a2), .val (.double d3), .second, .val (.int (0 : Int32)), .val (.double (FP.l2d (((0 : Int64) + ve1) + ve0))), .second] [])) (fun t k => XS.goto Xh238.here hx rfl (pc0 := 118) (pc' := 68) rfl (hb hby d4_118) (by decide) (by decide) k) ?_
            refine own_preJ (B := T237.setTop (mkF m 70 #[.val (.ref a1), .val (.ref a2), .val (.double d3), .second, .val (.int (0 : Int32)), .val (.double (FP.l2d (((0 : Int64) + ve1) + ve0))), .second] [(.int (0 : Int32))])) (fun t k => XS.iload Xh238.here hx rfl (hb hby d4_68) rfl k) ?_
            refine own_preJ (B := T237.setTop (mkF m 121 #[.val (.ref a1), .val (.ref a2), .val (.double d3), .second, .val (.int (0 : Int32)), .val (.double (FP.l2d (((0 : Int64) + ve1) + ve0))), .second] [])) (fun t k => XS.ifYes Xh238.here hx rfl (pc0 := 70) (pc' := 121) rfl (hb hby d4_70) rfl ((if0 _ _).trans (flt (by decide : ¬ ((0 : Int32) < (0 : Int32)))).2.2.2) (by decide) (by decide) k) ?_
            rw [if_pos hc65_210, if_pos hc109_224, if_pos hc109_239] at hz203
            subst hz203
            rw [if_pos hc65_210, if_pos hc109_224, if_pos hc109_239] at hz206
            subst hz206
            rw [if_pos hc65_210, if_pos hc109_224, if_pos hc109_239] at hz207
            subst hz207
            have K240 : Keep h0 h237 [a1, w_suffix_a1] := (Keep.wr K235 W237 msx)
            have c241 := (Exa.wr W237 (Exa.wr W222 (Exa.wr W201 j28_0)))
            have c242 := (Fld.other W237 (Fld.other W222 (Fld.other W201 j28_1 (Or.inl nesx0)) (Or.inl nesx0)) (Or.inl nesx0))
            have c243 := (Fld.other W237 (Fld.other W222 (Fld.other W201 j28_2 (Or.inl nesx0)) (Or.inl nesx0)) (Or.inl nesx0))
            have c244 := (Fld.other W237 (Fld.other W222 (Fld.other W201 j28_3 (Or.inl nesx0)) (Or.inl nesx0)) (Or.inl nesx0))
            have c245 := (Fld.other W237 (Fld.other W222 (Fld.other W201 j28_4 (Or.inl nesx0)) (Or.inl nesx0)) (Or.inl nesx0))
            have c246 := (Fld.other W237 c228 (Or.inl nesx0))
            have c247 := (Fld.other W237 (Fld.other W222 (Fld.other W201 j28_6 (Or.inl nesx0)) (Or.inl nesx0)) (Or.inl nesx0))
            have c248 := (Fld.other W237 (Fld.other W222 (Fld.other W201 j28_7 (Or.inl nesx0)) (Or.inl nesx0)) (Or.inl nesx0))
            have c249 := (Fld.other W237 c225 (Or.inl nesx0))
            have c250 := (Arv.other c232 W237 nesx1)
            have c251 := (Arv.other c230 W237 nesx2)
            exact ⟨_, ⟨_, _, _, (.val (.double (FP.l2d (((0 : Int64) + ve1) + ve0)))), .second, rfl, own_more Xh238 (by decide) (by decide), e237, Nh238, K240, c241, c242, c243, c244, c245, c246, c247, c248, c249, c250, c251, V237⟩, fun t k => k⟩
          · refine own_preJ (B := T237.setTop (mkF m 112 #[.val (.ref a1), .val (.ref a2), .val (.double d3), .second, .val (.int (1 : Int32)), .val (.double (FP.l2d (((0 : Int64) + ve1) + ve0))), .second] [])) (fun t k => XS.ifNo Xh238.here hx rfl (hb hby d4_109) rfl ((if0 _ _).trans (flt (mt (lw_lt ((((0 : Int64) + ve1) + ve0) + (((0 : Int64) + ve1) + ve0)) kq).mp hc109_239)).1) k) ?_
            refine own_preJ (B := T237.setTop (mkF m 121 #[.val (.ref a1), .val (.ref a2), .val (.double d3), .second, .val (.int (1 : Int32)), .val (.double (FP.l2d (((0 : Int64) + ve1) + ve0))), .second] [])) (fun t k => XS.goto Xh238.here hx rfl (pc0 := 112) (pc' := 121) rfl (hb hby d4_112) (by decide) (by decide) k) ?_
            rw [if_pos hc65_210, if_pos hc109_224, if_neg hc109_239] at hz203
            subst hz203
            rw [if_pos hc65_210, if_pos hc109_224, if_neg hc109_239] at hz206
            subst hz206
            rw [if_pos hc65_210, if_pos hc109_224, if_neg hc109_239] at hz207
            subst hz207
            have K252 : Keep h0 h237 [a1, w_suffix_a1] := (Keep.wr K235 W237 msx)
            have c253 := (Exa.wr W237 (Exa.wr W222 (Exa.wr W201 j28_0)))
            have c254 := (Fld.other W237 (Fld.other W222 (Fld.other W201 j28_1 (Or.inl nesx0)) (Or.inl nesx0)) (Or.inl nesx0))
            have c255 := (Fld.other W237 (Fld.other W222 (Fld.other W201 j28_2 (Or.inl nesx0)) (Or.inl nesx0)) (Or.inl nesx0))
            have c256 := (Fld.other W237 (Fld.other W222 (Fld.other W201 j28_3 (Or.inl nesx0)) (Or.inl nesx0)) (Or.inl nesx0))
            have c257 := (Fld.other W237 (Fld.other W222 (Fld.other W201 j28_4 (Or.inl nesx0)) (Or.inl nesx0)) (Or.inl nesx0))
            have c258 := (Fld.other W237 c228 (Or.inl nesx0))
            have c259 := (Fld.other W237 (Fld.other W222 (Fld.other W201 j28_6 (Or.inl nesx0)) (Or.inl nesx0)) (Or.inl nesx0))
            have c260 := (Fld.other W237 (Fld.other W222 (Fld.other W201 j28_7 (Or.inl nesx0)) (Or.inl nesx0)) (Or.inl nesx0))
            have c261 := (Fld.other W237 c225 (Or.inl nesx0))
            have c262 := (Arv.other c232 W237 nesx1)
            have c263 := (Arv.other c230 W237 nesx2)
            exact ⟨_, ⟨_, _, _, (.val (.double (FP.l2d (((0 : Int64) + ve1) + ve0)))), .second, rfl, own_more Xh238 (by decide) (by decide), e237, Nh238, K252, c253, c254, c255, c256, c257, c258, c259, c260, c261, c262, c263, V237⟩, fun t k => k⟩
        · refine own_preJ (B := T222.setTop (mkF m 112 #[.val (.ref a1), .val (.ref a2), .val (.double d3), .second, .val (.int (2 : Int32)), .val (.double (FP.l2d ((0 : Int64) + ve1))), .second] [])) (fun t k => XS.ifNo Xh223.here hx rfl (hb hby d4_109) rfl ((if0 _ _).trans (flt (mt (lw_lt (((0 : Int64) + ve1) + ((0 : Int64) + ve1)) kq).mp hc109_224)).1) k) ?_
          refine own_preJ (B := T222.setTop (mkF m 121 #[.val (.ref a1), .val (.ref a2), .val (.double d3), .second, .val (.int (2 : Int32)), .val (.double (FP.l2d ((0 : Int64) + ve1))), .second] [])) (fun t k => XS.goto Xh223.here hx rfl (pc0 := 112) (pc' := 121) rfl (hb hby d4_112) (by decide) (by decide) k) ?_
          rw [if_pos hc65_210, if_neg hc109_224] at hz203
          subst hz203
          rw [if_pos hc65_210, if_neg hc109_224] at hz206
          subst hz206
          rw [if_pos hc65_210, if_neg hc109_224] at hz207
          subst hz207
          have K264 : Keep h0 h222 [a1, w_suffix_a1] := (Keep.wr K209 W222 msx)
          have c265 := (Exa.wr W222 (Exa.wr W201 j28_0))
          have c266 := (Fld.other W222 (Fld.other W201 j28_1 (Or.inl nesx0)) (Or.inl nesx0))
          have c267 := (Fld.other W222 (Fld.other W201 j28_2 (Or.inl nesx0)) (Or.inl nesx0))
          have c268 := (Fld.other W222 (Fld.other W201 j28_3 (Or.inl nesx0)) (Or.inl nesx0))
          have c269 := (Fld.other W222 (Fld.other W201 j28_4 (Or.inl nesx0)) (Or.inl nesx0))
          have c270 := (Fld.other W222 c214 (Or.inl nesx0))
          have c271 := (Fld.other W222 (Fld.other W201 j28_6 (Or.inl nesx0)) (Or.inl nesx0))
          have c272 := (Fld.other W222 (Fld.other W201 j28_7 (Or.inl nesx0)) (Or.inl nesx0))
          have c273 := (Fld.other W222 c211 (Or.inl nesx0))
          have c274 := (Arv.other c218 W222 nesx1)
          have c275 := (Arv.other c216 W222 nesx2)
          exact ⟨_, ⟨_, _, _, (.val (.double (FP.l2d ((0 : Int64) + ve1)))), .second, rfl, own_more Xh223 (by decide) (by decide), e222, Nh223, K264, c265, c266, c267, c268, c269, c270, c271, c272, c273, c274, c275, V222⟩, fun t k => k⟩
      · refine own_preJ (B := T201.setTop (mkF m 121 #[.val (.ref a1), .val (.ref a2), .val (.double d3), .second, .val (.int (2 : Int32)), .unset, .unset] [])) (fun t k => XS.ifYes Xh202.here hx rfl (pc0 := 65) (pc' := 121) rfl (hb hby d4_65) rfl ((if0 _ _).trans (flt (mt (lw_gt kq (0 : Int64)).mp hc65_210)).2.2.2) (by decide) (by decide) k) ?_
        rw [if_neg hc65_210] at hz203
        subst hz203
        rw [if_neg hc65_210] at hz206
        subst hz206
        rw [if_neg hc65_210] at hz207
        subst hz207
        have c276 := (Exa.wr W201 j28_0)
        have c277 := (Fld.other W201 j28_1 (Or.inl nesx0))
        have c278 := (Fld.other W201 j28_2 (Or.inl nesx0))
        have c279 := (Fld.other W201 j28_3 (Or.inl nesx0))
        have c280 := (Fld.other W201 j28_4 (Or.inl nesx0))
        have c281 := (Fld.other W201 j28_5 (Or.inl nesx0))
        have c282 := (Fld.other W201 j28_6 (Or.inl nesx0))
        have c283 := (Fld.other W201 j28_7 (Or.inl nesx0))
        have c284 := (Fld.other W201 Fsx (Or.inl nesx0))
        have c285 := (Arv.other j28_8 W201 nesx1)
        have c286 := (Arv.other j28_9 W201 nesx2)
        exact ⟨_, ⟨_, _, _, .unset, .unset, rfl, own_more Xh202 (by decide) (by decide), e201, Nh202, K209, c276, c277, c278, c279, c280, c281, c282, c283, c284, c285, c286, V201⟩, fun t k => k⟩
    refine own_pre (B := T208.setTop (mkF m 121 #[.val (.ref a1), .val (.ref a2), .val (.double d3), .second, .val (.int z203), sl204, sl205] [])) (fun t k => st208 t k) ?_
    refine own_pre (B := T208.setTop (mkF m 122 #[.val (.ref a1), .val (.ref a2), .val (.double d3), .second, .val (.int z203), sl204, sl205] [(.ref a1)])) (fun t k => XS.aloadN X208.here hx rfl (hb hby d4_121) rfl rfl k) ?_
    refine own_pre (B := T208.setTop (mkF m 124 #[.val (.ref a1), .val (.ref a2), .val (.double d3), .second, .val (.int z203), sl204, sl205] [(.int z203), (.ref a1)])) (fun t k => XS.iload X208.here hx rfl (hb hby d4_122) rfl k) ?_
    refine own_pre (B := T208.setTop (mkF m 125 #[.val (.ref a1), .val (.ref a2), .val (.double d3), .second, .val (.int z203), sl204, sl205] [(.int (1 : Int32)), (.int z203), (.ref a1)])) (fun t k => XS.iconst X208.here hx rfl (hb hby d4_124) k) ?_
    refine own_pre (B := T208.setTop (mkF m 126 #[.val (.ref a1), .val (.ref a2), .val (.double d3), .second, .val (.int z203), sl204, sl205] [(.int (z203 - (1 : Int32))), (.ref a1)])) (fun t k => XS.isub X208.here hx rfl (hb hby d4_125) rfl k) ?_
    obtain ⟨T287, h287, X287, e287, W287, st287⟩ := putF X208 hx hZ hown (host := "") (Or.inl (hw _ (ow 38 rfl))) Via.refl e208 j208_6 j208_0 (Or.inl (hw _ (ow 39 rfl))) (hw _ (ow 9 rfl)) (ty := .int) (by decide) rfl rfl (g := (mkF m 126 #[.val (.ref a1), .val (.ref a2), .val (.double d3), .second, .val (.int z203), sl204, sl205] [(.int (z203 - (1 : Int32))), (.ref a1)])) rfl rfl (hb hby d4_126)
    have Fw287 := Fld.same W287 j208_6
    have N287 := Fr.snoc X287 N208 g_a1
    obtain ⟨Lh288, Xh288, Nh288⟩ := own_hide X287 N287
    refine own_pre (B := T287.setTop (mkF m 129 #[.val (.ref a1), .val (.ref a2), .val (.double d3), .second, .val (.int z203), sl204, sl205] [])) (fun t k => st287 t k) ?_
    refine own_pre (B := T287.setTop (mkF m 130 #[.val (.ref a1), .val (.ref a2), .val (.double d3), .second, .val (.int z203), sl204, sl205] [(.ref a1)])) (fun t k => XS.aloadN Xh288.here hx rfl (hb hby d4_129) rfl rfl k) ?_
    refine own_pre (B := T287.setTop (mkF m 131 #[.val (.ref a1), .val (.ref a2), .val (.double d3), .second, .val (.int z203), sl204, sl205] [(.ref a1), (.ref a1)])) (fun t k => XS.aloadN Xh288.here hx rfl (hb hby d4_130) rfl rfl k) ?_
    obtain ⟨T289, X289, e289, st289⟩ := getF Xh288 hx hZ hown (host := "") (Or.inl (hw _ (ow 38 rfl))) Via.refl e287 Fw287 (g := (mkF m 131 #[.val (.ref a1), .val (.ref a2), .val (.double d3), .second, .val (.int z203), sl204, sl205] [(.ref a1), (.ref a1)])) rfl rfl (hb hby d4_131)
    refine own_pre (B := T289.setTop (mkF m 134 #[.val (.ref a1), .val (.ref a2), .val (.double d3), .second, .val (.int z203), sl204, sl205] [(.int (z203 - (1 : Int32))), (.ref a1)])) (fun t k => st289 t k) ?_
    have c290 := (Exa.wr W287 j208_0)
    have c291 := (Fld.other W287 j208_7 (Or.inr (slot_ne (Or.inl (hw _ (ow 41 rfl))) (Or.inl (hw _ (ow 39 rfl))) (by decide) (t := .int) (t' := .int) (by decide) (by decide))))
    have K292 : Keep h0 h287 [a1, w_suffix_a1] := (Keep.wr K208j W287 (Or.inl (List.mem_of_getElem? (i := 0) rfl)))
    obtain ⟨T293, h293, X293, e293, W293, st293⟩ := putF X289 hx hZ hown (host := "") (Or.inl (hw _ (ow 40 rfl))) Via.refl e289 c291 c290 (Or.inl (hw _ (ow 41 rfl))) (hw _ (ow 9 rfl)) (ty := .int) (by decide) rfl rfl (g := (mkF m 134 #[.val (.ref a1), .val (.ref a2), .val (.double d3), .second, .val (.int z203), sl204, sl205] [(.int (z203 - (1 : Int32))), (.ref a1)])) rfl rfl (hb hby d4_134)
    have Fw293 := Fld.same W293 c291
    have N293 := Fr.snoc X293 Nh288 g_a1
    obtain ⟨Lh294, Xh294, Nh294⟩ := own_hide X293 N293
    refine own_pre (B := T293.setTop (mkF m 137 #[.val (.ref a1), .val (.ref a2), .val (.double d3), .second, .val (.int z203), sl204, sl205] [])) (fun t k => st293 t k) ?_
    refine own_pre (B := T293.setTop (mkF m 139 #[.val (.ref a1), .val (.ref a2), .val (.double d3), .second, .val (.int z203), sl204, sl205] [(.int z203)])) (fun t k => XS.iload Xh294.here hx rfl (hb hby d4_137) rfl k) ?_
    have K295 : Keep h0 h293 [a1, w_suffix_a1] := (Keep.wr K292 W293 (Or.inl (List.mem_of_getElem? (i := 0) rfl)))
    have c296 := (Exa.wr W293 c290)
    have c297 := (Arv.other (Arv.other j208_11 W287 (Ne.symm nesx0)) W293 (Ne.symm nesx0))
    have c298 := (Fld.other W293 (Fld.other W287 j208_1 (Or.inr (slot_ne (Or.inl (hw _ (ow 18 rfl))) (Or.inl (hw _ (ow 39 rfl))) (by decide) (t := (.array .int)) (t' := .int) (by decide) (by decide)))) (Or.inr (slot_ne (Or.inl (hw _ (ow 18 rfl))) (Or.inl (hw _ (ow 41 rfl))) (by decide) (t := (.array .int)) (t' := .int) (by decide) (by decide))))
    have c299 := (Fld.other W293 (Fld.other W287 j208_2 (Or.inr (slot_ne (Or.inl (hw _ (ow 33 rfl))) (Or.inl (hw _ (ow 39 rfl))) (by decide) (t := .double) (t' := .int) (by decide) (by decide)))) (Or.inr (slot_ne (Or.inl (hw _ (ow 33 rfl))) (Or.inl (hw _ (ow 41 rfl))) (by decide) (t := .double) (t' := .int) (by decide) (by decide))))
    have c300 := (Fld.other W293 (Fld.other W287 j208_3 (Or.inr (slot_ne (Or.inl (hw _ (ow 35 rfl))) (Or.inl (hw _ (ow 39 rfl))) (by decide) (t := .int) (t' := .int) (by decide) (by decide)))) (Or.inr (slot_ne (Or.inl (hw _ (ow 35 rfl))) (Or.inl (hw _ (ow 41 rfl))) (by decide) (t := .int) (t' := .int) (by decide) (by decide))))
    have c301 := (Fld.other W293 (Fld.other W287 j208_4 (Or.inr (slot_ne (Or.inl (hw _ (ow 37 rfl))) (Or.inl (hw _ (ow 39 rfl))) (by decide) (t := .int) (t' := .int) (by decide) (by decide)))) (Or.inr (slot_ne (Or.inl (hw _ (ow 37 rfl))) (Or.inl (hw _ (ow 41 rfl))) (by decide) (t := .int) (t' := .int) (by decide) (by decide))))
    have c302 := (Fld.other W293 (Fld.other W287 j208_8 (Or.inr (slot_ne (Or.inl (hw _ (ow 20 rfl))) (Or.inl (hw _ (ow 39 rfl))) (by decide) (t := (.array .double)) (t' := .int) (by decide) (by decide)))) (Or.inr (slot_ne (Or.inl (hw _ (ow 20 rfl))) (Or.inl (hw _ (ow 41 rfl))) (by decide) (t := (.array .double)) (t' := .int) (by decide) (by decide))))
    have c303 := (Fld.other W293 (Fld.other W287 j208_5 (Or.inr (slot_ne (Or.inr (hw _ (ow 26 rfl))) (Or.inl (hw _ (ow 39 rfl))) (by decide) (t := (.array .double)) (t' := .int) (by decide) (by decide)))) (Or.inr (slot_ne (Or.inr (hw _ (ow 26 rfl))) (Or.inl (hw _ (ow 41 rfl))) (by decide) (t := (.array .double)) (t' := .int) (by decide) (by decide))))
    have c304 := (Fld.other W293 Fw287 (Or.inr (slot_ne (Or.inl (hw _ (ow 39 rfl))) (Or.inl (hw _ (ow 41 rfl))) (by decide) (t := .int) (t' := .int) (by decide) (by decide))))
    obtain ⟨fsr305, hrr305, hrunr305, hendedr305, hWr305, hsamer305⟩ := Xh294.leave (v := some (.int z203)) (fun h => by rw [Bd.returns] at h; cases h)
    refine ⟨_, _, (retI Xh294 hx Bd.returns (hb hby d4_139) hrr305), hrunr305, hendedr305, _, _, rfl, ?_, ⟨_, rfl⟩, hWr305, hsamer305.mono (by decide) (by decide)⟩
    show Q4 Z a1 a2 d3 w_suffix_a1 w_weights_a1 k_w_suffix_a1 NN u0 u1 u2 u3 u4 k_w_weights_a1 w0 w1 w2 w3 w4 w5 w6 w7 k_a2 (2 : Int32) r0 r1 r2 r3 kq ve0 ve1 ve2 ve3 w_firstLast_a1 w_last_a1 u_bag_a1 u_least_a1 u_heavyCount_a1 u_lastLevel_a1 h0 n0 _ T293.heap _
    rw [e293]
    exact ⟨sx, kx, nx, z206, z207, (FP.l2d (0 : Int64)), x3, x4, (z203 - (1 : Int32)), (z203 - (1 : Int32)), (by rw [hz203, own_f4_2]), Nh294, K295, gsx, osx, hnx, c296, c298, c299, c300, c301, c302, c303, c304, Fw293, c297⟩
  · have hR_ := hR0
    refine own_pre (B := T28.setTop (mkF m 51 #[.val (.ref a1), .val (.ref a2), .val (.double d3), .second, .unset, .unset, .unset] [(.ref a2)])) (fun t k => XS.aloadN X28.here hx rfl (hb hby d4_50) rfl rfl k) ?_
    obtain ⟨cl306, Ar306, -, S306, N306v, -, -⟩ := id j28_9
    refine own_pre (B := T28.setTop (mkF m 52 #[.val (.ref a1), .val (.ref a2), .val (.double d3), .second, .unset, .unset, .unset] [(.int (3 : Int32))])) (fun t k => X28.arraylength hx (by rw [e28]; exact Ar306.1) (State.isArrayOf_alike hZ.alike Ar306.2.1) (g := (mkF m 51 #[.val (.ref a1), .val (.ref a2), .val (.double d3), .second, .unset, .unset, .unset] [(.ref a2)])) rfl rfl (hb hby d4_51) t (by rw [len_of S306 N306v]; exact k)) ?_
    refine own_pre (B := T28.setTop (mkF m 54 #[.val (.ref a1), .val (.ref a2), .val (.double d3), .second, .val (.int (3 : Int32)), .unset, .unset] [])) (fun t k => XS.istore X28.here hx rfl (hb hby d4_52) rfl (l' := #[.val (.ref a1), .val (.ref a2), .val (.double d3), .second, .val (.int (3 : Int32)), .unset, .unset]) rfl k) ?_
    refine own_pre (B := T28.setTop (mkF m 55 #[.val (.ref a1), .val (.ref a2), .val (.double d3), .second, .val (.int (3 : Int32)), .unset, .unset] [(.ref a1)])) (fun t k => XS.aloadN X28.here hx rfl (hb hby d4_54) rfl rfl k) ?_
    obtain ⟨T307, X307, e307, st307⟩ := getF X28 hx hZ hown (host := "") (Or.inl (hw _ (ow 19 rfl))) Via.refl e28 Fsx (g := (mkF m 55 #[.val (.ref a1), .val (.ref a2), .val (.double d3), .second, .val (.int (3 : Int32)), .unset, .unset] [(.ref a1)])) rfl rfl (hb hby d4_55)
    refine own_pre (B := T307.setTop (mkF m 58 #[.val (.ref a1), .val (.ref a2), .val (.double d3), .second, .val (.int (3 : Int32)), .unset, .unset] [(.ref sx)])) (fun t k => st307 t k) ?_
    refine own_pre (B := T307.setTop (mkF m 60 #[.val (.ref a1), .val (.ref a2), .val (.double d3), .second, .val (.int (3 : Int32)), .unset, .unset] [(.int (3 : Int32)), (.ref sx)])) (fun t k => XS.iload X307.here hx rfl (hb hby d4_58) rfl k) ?_
    refine own_pre (B := T307.setTop (mkF m 61 #[.val (.ref a1), .val (.ref a2), .val (.double d3), .second, .val (.int (3 : Int32)), .unset, .unset] [(.double (FP.l2d (0 : Int64))), (.int (3 : Int32)), (.ref sx)])) (fun t k => XS.dconst0 X307.here hx rfl (hb hby d4_60) own_dc0 k) ?_
    obtain ⟨cl308, Ar308, q308, S308, N308v, H308v, G308v⟩ := Vsx
    have Vsx : Arv Z h28 sx kx .double nx [(.double x0), (.double x1), (.double x2), (.double x3), (.double x4)] (.double (FP.l2d (0 : Int64))) := ⟨cl308, Ar308, q308, S308, N308v, H308v, G308v⟩
    have hin308 : ¬ ((3 : Int32) < 0 ∨ cl308.slots.size ≤ ((3 : Int32)).toNatClampNeg) := inb_of S308 ⟨by decide, own_ltle hlt (by decide)⟩
    obtain ⟨T309, h309, X309, e309, W309, st309⟩ := stD X307 hx hZ e307 Ar308 (j := (3 : Int32)) hin308 (g := (mkF m 61 #[.val (.ref a1), .val (.ref a2), .val (.double d3), .second, .val (.int (3 : Int32)), .unset, .unset] [(.double (FP.l2d (0 : Int64))), (.int (3 : Int32)), (.ref sx)])) rfl rfl (hb hby d4_61)
    have V309 : Arv Z h309 sx kx .double nx [(.double x0), (.double x1), (.double x2), (.double (FP.l2d (0 : Int64))), (.double x4)] (.double (FP.l2d (0 : Int64))) := Arv.set Ar308 q308 S308 N308v H308v G308v rfl W309 3 rfl (Nat.le_of_ble_eq_true rfl)
    have N309 := Fr.snoc X309 N28 gsx
    obtain ⟨Lh310, Xh310, Nh310⟩ := own_hide X309 N309
    refine own_pre (B := T309.setTop (mkF m 62 #[.val (.ref a1), .val (.ref a2), .val (.double d3), .second, .val (.int (3 : Int32)), .unset, .unset] [])) (fun t k => st309 t k) ?_
    refine own_pre (B := T309.setTop (mkF m 63 #[.val (.ref a1), .val (.ref a2), .val (.double d3), .second, .val (.int (3 : Int32)), .unset, .unset] [(.double d3)])) (fun t k => XS.dloadN Xh310.here hx rfl (hb hby d4_62) rfl k) ?_
    refine own_pre (B := T309.setTop (mkF m 64 #[.val (.ref a1), .val (.ref a2), .val (.double d3), .second, .val (.int (3 : Int32)), .unset, .unset] [(.double (FP.l2d (0 : Int64))), (.double d3)])) (fun t k => XS.dconst0 Xh310.here hx rfl (hb hby d4_63) own_dc0 k) ?_
    refine own_pre (B := T309.setTop (mkF m 65 #[.val (.ref a1), .val (.ref a2), .val (.double d3), .second, .val (.int (3 : Int32)), .unset, .unset] [(.int (lcmpW kq (0 : Int64)))])) (fun t k => XS.dcmpS Xh310.here hx rfl (hb hby d4_64) rfl (own_cmp0d hd hk _) k) ?_
    obtain ⟨z311, hz311⟩ : ∃ z : Int32, z = (if (0 : Int64) < kq then (if (((0 : Int64) + ve2) + ((0 : Int64) + ve2)) < kq then (if ((((0 : Int64) + ve2) + ve1) + (((0 : Int64) + ve2) + ve1)) < kq then (if (((((0 : Int64) + ve2) + ve1) + ve0) + ((((0 : Int64) + ve2) + ve1) + ve0)) < kq then (0 : Int32) else (1 : Int32)) else (2 : Int32)) else (3 : Int32)) else (3 : Int32)) := ⟨_, rfl⟩
    obtain ⟨z314, hz314⟩ : ∃ z : UInt64, z = (if (0 : Int64) < kq then (if (((0 : Int64) + ve2) + ((0 : Int64) + ve2)) < kq then (if ((((0 : Int64) + ve2) + ve1) + (((0 : Int64) + ve2) + ve1)) < kq then (if (((((0 : Int64) + ve2) + ve1) + ve0) + ((((0 : Int64) + ve2) + ve1) + ve0)) < kq then (FP.l2d ((((0 : Int64) + ve2) + ve1) + ve0)) else (FP.l2d ((((0 : Int64) + ve2) + ve1) + ve0))) else x0) else x0) else x0) := ⟨_, rfl⟩
    obtain ⟨z315, hz315⟩ : ∃ z : UInt64, z = (if (0 : Int64) < kq then (if (((0 : Int64) + ve2) + ((0 : Int64) + ve2)) < kq then (if ((((0 : Int64) + ve2) + ve1) + (((0 : Int64) + ve2) + ve1)) < kq then (if (((((0 : Int64) + ve2) + ve1) + ve0) + ((((0 : Int64) + ve2) + ve1) + ve0)) < kq then (FP.l2d (((0 : Int64) + ve2) + ve1)) else (FP.l2d (((0 : Int64) + ve2) + ve1))) else (FP.l2d (((0 : Int64) + ve2) + ve1))) else x1) else x1) := ⟨_, rfl⟩
    obtain ⟨z316, hz316⟩ : ∃ z : UInt64, z = (if (0 : Int64) < kq then (if (((0 : Int64) + ve2) + ((0 : Int64) + ve2)) < kq then (if ((((0 : Int64) + ve2) + ve1) + (((0 : Int64) + ve2) + ve1)) < kq then (if (((((0 : Int64) + ve2) + ve1) + ve0) + ((((0 : Int64) + ve2) + ve1) + ve0)) < kq then (FP.l2d ((0 : Int64) + ve2)) else (FP.l2d ((0 : Int64) + ve2))) else (FP.l2d ((0 : Int64) + ve2))) else (FP.l2d ((0 : Int64) + ve2))) else x2) := ⟨_, rfl⟩
    have K318 : Keep h0 h309 [a1, w_suffix_a1] := (Keep.wr K28j W309 msx)
    obtain ⟨_, ⟨T317, h317, L317, sl312, sl313, rfl, X317, e317, N317, K317j, j317_0, j317_1, j317_2, j317_3, j317_4, j317_5, j317_6, j317_7, j317_8, j317_9, j317_10, j317_11⟩, st317⟩ : own_J p.tables e below (fun B => ∃ (T' : State) (h' : Heap) (L' : List Loc) (sl312 sl313 : Slot), B = T'.setTop (mkF m 121 #[.val (.ref a1), .val (.ref a2), .val (.double d3), .second, .val (.int z311), sl312, sl313] []) ∧ Stand p l e ({ frames := 1, cells := 1, slots := 8, locals := 14 } : Room) s m #[(.ref a1), (.ref a2), (.double d3)] below meth c T' L' 1 8 ∧ T'.heap = h' ∧ Fr n0 L' ∧ Keep h0 h' [a1, w_suffix_a1] ∧ Exa Z h' a1 "com/example/nearjoin/nearjoin/join/PrefixCut" ∧ Fld Z h' a1 "com/example/nearjoin/nearjoin/join/PrefixCut" "bag" "[I" (.ref a2) ∧ Fld Z h' a1 "com/example/nearjoin/nearjoin/join/PrefixCut" "least" "D" (.double d3) ∧ Fld Z h' a1 "com/example/nearjoin/nearjoin/join/PrefixCut" "heavyCount" "I" (.int (-1 : Int32)) ∧ Fld Z h' a1 "com/example/nearjoin/nearjoin/join/PrefixCut" "lastLevel" "I" (.int (1 : Int32)) ∧ Fld Z h' a1 "com/example/nearjoin/nearjoin/join/PrefixCut" "weights" "[D" (.ref w_weights_a1) ∧ Fld Z h' a1 "com/example/nearjoin/nearjoin/join/PrefixCut" "firstLast" "I" (.int w_firstLast_a1) ∧ Fld Z h' a1 "com/example/nearjoin/nearjoin/join/PrefixCut" "last" "I" (.int w_last_a1) ∧ Fld Z h' a1 "com/example/nearjoin/nearjoin/join/PrefixCut" "suffix" "[D" (.ref sx) ∧ Arv Z h' w_weights_a1 k_w_weights_a1 .double (8 : Int32) [(.double (FP.l2d w0)), (.double (FP.l2d w1)), (.double (FP.l2d w2)), (.double (FP.l2d w3)), (.double (FP.l2d w4)), (.double (FP.l2d w5)), (.double (FP.l2d w6)), (.double (FP.l2d w7))] (.double (FP.l2d (0 : Int64))) ∧ Arv Z h' a2 k_a2 .int (3 : Int32) [(.int r0), (.int r1), (.int r2), (.int r3)] (.int (0 : Int32)) ∧ Arv Z h' sx kx .double nx [(.double z314), (.double z315), (.double z316), (.double (FP.l2d (0 : Int64))), (.double x4)] (.double (FP.l2d (0 : Int64)))) (T309.setTop (mkF m 65 #[.val (.ref a1), .val (.ref a2), .val (.double d3), .second, .val (.int (3 : Int32)), .unset, .unset] [(.int (lcmpW kq (0 : Int64)))])) := by
      by_cases hc65_319 : (0 : Int64) < kq
      · refine own_preJ (B := T309.setTop (mkF m 68 #[.val (.ref a1), .val (.ref a2), .val (.double d3), .second, .val (.int (3 : Int32)), .unset, .unset] [])) (fun t k => XS.ifNo Xh310.here hx rfl (hb hby d4_65) rfl ((if0 _ _).trans (tlt ((lw_gt kq (0 : Int64)).mpr hc65_319)).2.2.2) k) ?_
        refine own_preJ (B := T309.setTop (mkF m 70 #[.val (.ref a1), .val (.ref a2), .val (.double d3), .second, .val (.int (3 : Int32)), .unset, .unset] [(.int (3 : Int32))])) (fun t k => XS.iload Xh310.here hx rfl (hb hby d4_68) rfl k) ?_
        refine own_preJ (B := T309.setTop (mkF m 73 #[.val (.ref a1), .val (.ref a2), .val (.double d3), .second, .val (.int (3 : Int32)), .unset, .unset] [])) (fun t k => XS.ifNo Xh310.here hx rfl (hb hby d4_70) rfl ((if0 _ _).trans (tlt (by decide : (0 : Int32) < (3 : Int32))).2.2.2) k) ?_
        refine own_preJ (B := T309.setTop (mkF m 74 #[.val (.ref a1), .val (.ref a2), .val (.double d3), .second, .val (.int (3 : Int32)), .unset, .unset] [(.ref a1)])) (fun t k => XS.aloadN Xh310.here hx rfl (hb hby d4_73) rfl rfl k) ?_
        have c320 := (Fld.other W309 Fsx (Or.inl nesx0))
        obtain ⟨T321, X321, e321, st321⟩ := getF Xh310 hx hZ hown (host := "") (Or.inl (hw _ (ow 19 rfl))) Via.refl e309 c320 (g := (mkF m 74 #[.val (.ref a1), .val (.ref a2), .val (.double d3), .second, .val (.int (3 : Int32)), .unset, .unset] [(.ref a1)])) rfl rfl (hb hby d4_74)
        refine own_preJ (B := T321.setTop (mkF m 77 #[.val (.ref a1), .val (.ref a2), .val (.double d3), .second, .val (.int (3 : Int32)), .unset, .unset] [(.ref sx)])) (fun t k => st321 t k) ?_
        refine own_preJ (B := T321.setTop (mkF m 79 #[.val (.ref a1), .val (.ref a2), .val (.double d3), .second, .val (.int (3 : Int32)), .unset, .unset] [(.int (3 : Int32)), (.ref sx)])) (fun t k => XS.iload X321.here hx rfl (hb hby d4_77) rfl k) ?_
        obtain ⟨cl322, Ar322, q322, S322, N322v, H322v, G322v⟩ := V309
        have V309 : Arv Z h309 sx kx .double nx [(.double x0), (.double x1), (.double x2), (.double (FP.l2d (0 : Int64))), (.double x4)] (.double (FP.l2d (0 : Int64))) := ⟨cl322, Ar322, q322, S322, N322v, H322v, G322v⟩
        have hin322 : ¬ ((3 : Int32) < 0 ∨ cl322.slots.size ≤ ((3 : Int32)).toNatClampNeg) := inb_of S322 ⟨by decide, own_ltle hlt (by decide)⟩
        have hat322 : cl322.slots[((3 : Int32)).toNatClampNeg]? = some (.double (FP.l2d (0 : Int64))) := H322v.at hin322 rfl
        refine own_preJ (B := T321.setTop (mkF m 80 #[.val (.ref a1), .val (.ref a2), .val (.double d3), .second, .val (.int (3 : Int32)), .unset, .unset] [(.double (FP.l2d (0 : Int64)))])) (fun t k => X321.daload hx (j := (3 : Int32)) (v := (.double (FP.l2d (0 : Int64)))) (by rw [e321]; exact Ar322.1) (State.isArrayOf_alike hZ.alike Ar322.2.1) Ar322.2.2 hin322 hat322 (g := (mkF m 79 #[.val (.ref a1), .val (.ref a2), .val (.double d3), .second, .val (.int (3 : Int32)), .unset, .unset] [(.int (3 : Int32)), (.ref sx)])) rfl rfl (hb hby d4_79) t k) ?_
        refine own_preJ (B := T321.setTop (mkF m 81 #[.val (.ref a1), .val (.ref a2), .val (.double d3), .second, .val (.int (3 : Int32)), .unset, .unset] [(.ref a1), (.double (FP.l2d (0 : Int64)))])) (fun t k => XS.aloadN X321.here hx rfl (hb hby d4_80) rfl rfl k) ?_
        have c323 := (Fld.other W309 j28_5 (Or.inl nesx0))
        obtain ⟨T324, X324, e324, st324⟩ := getF X321 hx hZ hown (host := "") (Or.inl (hw _ (ow 25 rfl))) Via.refl e321 c323 (g := (mkF m 81 #[.val (.ref a1), .val (.ref a2), .val (.double d3), .second, .val (.int (3 : Int32)), .unset, .unset] [(.ref a1), (.double (FP.l2d (0 : Int64)))])) rfl rfl (hb hby d4_81)
        refine own_preJ (B := T324.setTop (mkF m 84 #[.val (.ref a1), .val (.ref a2), .val (.double d3), .second, .val (.int (3 : Int32)), .unset, .unset] [(.ref w_weights_a1), (.double (FP.l2d (0 : Int64)))])) (fun t k => st324 t k) ?_
        refine own_preJ (B := T324.setTop (mkF m 85 #[.val (.ref a1), .val (.ref a2), .val (.double d3), .second, .val (.int (3 : Int32)), .unset, .unset] [(.ref a2), (.ref w_weights_a1), (.double (FP.l2d (0 : Int64)))])) (fun t k => XS.aloadN X324.here hx rfl (hb hby d4_84) rfl rfl k) ?_
        refine own_preJ (B := T324.setTop (mkF m 87 #[.val (.ref a1), .val (.ref a2), .val (.double d3), .second, .val (.int (3 : Int32)), .unset, .unset] [(.int (3 : Int32)), (.ref a2), (.ref w_weights_a1), (.double (FP.l2d (0 : Int64)))])) (fun t k => XS.iload X324.here hx rfl (hb hby d4_85) rfl k) ?_
        refine own_preJ (B := T324.setTop (mkF m 88 #[.val (.ref a1), .val (.ref a2), .val (.double d3), .second, .val (.int (3 : Int32)), .unset, .unset] [(.int (1 : Int32)), (.int (3 : Int32)), (.ref a2), (.ref w_weights_a1), (.double (FP.l2d (0 : Int64)))])) (fun t k => XS.iconst X324.here hx rfl (hb hby d4_87) k) ?_
        refine own_preJ (B := T324.setTop (mkF m 89 #[.val (.ref a1), .val (.ref a2), .val (.double d3), .second, .val (.int (3 : Int32)), .unset, .unset] [(.int (2 : Int32)), (.ref a2), (.ref w_weights_a1), (.double (FP.l2d (0 : Int64)))])) (fun t k => XS.isub X324.here hx rfl (hb hby d4_88) rfl k) ?_
        have c325 := (Arv.other j28_9 W309 nesx2)
        obtain ⟨cl326, Ar326, q326, S326, N326v, H326v, G326v⟩ := c325
        have c325 : Arv Z h309 a2 k_a2 .int (3 : Int32) [(.int r0), (.int r1), (.int r2), (.int r3)] (.int (0 : Int32)) := ⟨cl326, Ar326, q326, S326, N326v, H326v, G326v⟩
        have hin326 : ¬ ((2 : Int32) < 0 ∨ cl326.slots.size ≤ ((2 : Int32)).toNatClampNeg) := inb_of S326 ⟨by decide, by decide⟩
        have hat326 : cl326.slots[((2 : Int32)).toNatClampNeg]? = some (.int r2) := H326v.at hin326 rfl
        refine own_preJ (B := T324.setTop (mkF m 90 #[.val (.ref a1), .val (.ref a2), .val (.double d3), .second, .val (.int (3 : Int32)), .unset, .unset] [(.int r2), (.ref w_weights_a1), (.double (FP.l2d (0 : Int64)))])) (fun t k => X324.iaload hx (j := (2 : Int32)) (v := (.int r2)) (by rw [e324]; exact Ar326.1) (State.isArrayOf_alike hZ.alike Ar326.2.1) Ar326.2.2 hin326 hat326 (g := (mkF m 89 #[.val (.ref a1), .val (.ref a2), .val (.double d3), .second, .val (.int (3 : Int32)), .unset, .unset] [(.int (2 : Int32)), (.ref a2), (.ref w_weights_a1), (.double (FP.l2d (0 : Int64)))])) rfl rfl (hb hby d4_89) t k) ?_
        have c327 := (Arv.other j28_8 W309 nesx1)
        obtain ⟨cl328, Ar328, q328, S328, N328v, H328v, G328v⟩ := c327
        have c327 : Arv Z h309 w_weights_a1 k_w_weights_a1 .double (8 : Int32) [(.double (FP.l2d w0)), (.double (FP.l2d w1)), (.double (FP.l2d w2)), (.double (FP.l2d w3)), (.double (FP.l2d w4)), (.double (FP.l2d w5)), (.double (FP.l2d w6)), (.double (FP.l2d w7))] (.double (FP.l2d (0 : Int64))) := ⟨cl328, Ar328, q328, S328, N328v, H328v, G328v⟩
        have hin328 : ¬ (r2 < 0 ∨ cl328.slots.size ≤ (r2).toNatClampNeg) := inb_of S328 hR2
        have hat328 : cl328.slots[(r2).toNatClampNeg]? = some (.double (FP.l2d ve2)) := H328v.at hin328 (own_getE hR2 hE2)
        refine own_preJ (B := T324.setTop (mkF m 91 #[.val (.ref a1), .val (.ref a2), .val (.double d3), .second, .val (.int (3 : Int32)), .unset, .unset] [(.double (FP.l2d ve2)), (.double (FP.l2d (0 : Int64)))])) (fun t k => X324.daload hx (j := r2) (v := (.double (FP.l2d ve2))) (by rw [e324]; exact Ar328.1) (State.isArrayOf_alike hZ.alike Ar328.2.1) Ar328.2.2 hin328 hat328 (g := (mkF m 90 #[.val (.ref a1), .val (.ref a2), .val (.double d3), .second, .val (.int (3 : Int32)), .unset, .unset] [(.int r2), (.ref w_weights_a1), (.double (FP.l2d (0 : Int64)))])) rfl rfl (hb hby d4_90) t k) ?_
        refine own_preJ (B := T324.setTop (mkF m 92 #[.val (.ref a1), .val (.ref a2), .val (.double d3), .second, .val (.int (3 : Int32)), .unset, .unset] [(.double (FP.l2d ((0 : Int64) + ve2)))])) (fun t k => XS.daddS X324.here hx rfl (hb hby d4_91) rfl (nn_w (own_add own_B0 hB2 (by decide))) (own_add own_B0 hB2 (by decide)) k) ?_
        refine own_preJ (B := T324.setTop (mkF m 94 #[.val (.ref a1), .val (.ref a2), .val (.double d3), .second, .val (.int (3 : Int32)), .val (.double (FP.l2d ((0 : Int64) + ve2))), .second] [])) (fun t k => XS.dstore X324.here hx rfl (hb hby d4_92) rfl (l' := #[.val (.ref a1), .val (.ref a2), .val (.double d3), .second, .val (.int (3 : Int32)), .val (.double (FP.l2d ((0 : Int64) + ve2))), .second]) rfl k) ?_
        refine own_preJ (B := T324.setTop (mkF m 95 #[.val (.ref a1), .val (.ref a2), .val (.double d3), .second, .val (.int (3 : Int32)), .val (.double (FP.l2d ((0 : Int64) + ve2))), .second] [(.ref a1)])) (fun t k => XS.aloadN X324.here hx rfl (hb hby d4_94) rfl rfl k) ?_
        obtain ⟨T329, X329, e329, st329⟩ := getF X324 hx hZ hown (host := "") (Or.inl (hw _ (ow 19 rfl))) Via.refl e324 c320 (g := (mkF m 95 #[.val (.ref a1), .val (.ref a2), .val (.double d3), .second, .val (.int (3 : Int32)), .val (.double (FP.l2d ((0 : Int64) + ve2))), .second] [(.ref a1)])) rfl rfl (hb hby d4_95)
        refine own_preJ (B := T329.setTop (mkF m 98 #[.val (.ref a1), .val (.ref a2), .val (.double d3), .second, .val (.int (3 : Int32)), .val (.double (FP.l2d ((0 : Int64) + ve2))), .second] [(.ref sx)])) (fun t k => st329 t k) ?_
        refine own_preJ (B := T329.setTop (mkF m 100 #[.val (.ref a1), .val (.ref a2), .val (.double d3), .second, .val (.int (3 : Int32)), .val (.double (FP.l2d ((0 : Int64) + ve2))), .second] [(.int (3 : Int32)), (.ref sx)])) (fun t k => XS.iload X329.here hx rfl (hb hby d4_98) rfl k) ?_
        refine own_preJ (B := T329.setTop (mkF m 101 #[.val (.ref a1), .val (.ref a2), .val (.double d3), .second, .val (.int (3 : Int32)), .val (.double (FP.l2d ((0 : Int64) + ve2))), .second] [(.int (1 : Int32)), (.int (3 : Int32)), (.ref sx)])) (fun t k => XS.iconst X329.here hx rfl (hb hby d4_100) k) ?_
        refine own_preJ (B := T329.setTop (mkF m 102 #[.val (.ref a1), .val (.ref a2), .val (.double d3), .second, .val (.int (3 : Int32)), .val (.double (FP.l2d ((0 : Int64) + ve2))), .second] [(.int (2 : Int32)), (.ref sx)])) (fun t k => XS.isub X329.here hx rfl (hb hby d4_101) rfl k) ?_
        refine own_preJ (B := T329.setTop (mkF m 104 #[.val (.ref a1), .val (.ref a2), .val (.double d3), .second, .val (.int (3 : Int32)), .val (.double (FP.l2d ((0 : Int64) + ve2))), .second] [(.double (FP.l2d ((0 : Int64) + ve2))), (.int (2 : Int32)), (.ref sx)])) (fun t k => XS.dload X329.here hx rfl (hb hby d4_102) rfl k) ?_
        obtain ⟨cl330, Ar330, q330, S330, N330v, H330v, G330v⟩ := V309
        have V309 : Arv Z h309 sx kx .double nx [(.double x0), (.double x1), (.double x2), (.double (FP.l2d (0 : Int64))), (.double x4)] (.double (FP.l2d (0 : Int64))) := ⟨cl330, Ar330, q330, S330, N330v, H330v, G330v⟩
        have hin330 : ¬ ((2 : Int32) < 0 ∨ cl330.slots.size ≤ ((2 : Int32)).toNatClampNeg) := inb_of S330 ⟨by decide, own_ltle hlt (by decide)⟩
        obtain ⟨T331, h331, X331, e331, W331, st331⟩ := stD X329 hx hZ e329 Ar330 (j := (2 : Int32)) hin330 (g := (mkF m 104 #[.val (.ref a1), .val (.ref a2), .val (.double d3), .second, .val (.int (3 : Int32)), .val (.double (FP.l2d ((0 : Int64) + ve2))), .second] [(.double (FP.l2d ((0 : Int64) + ve2))), (.int (2 : Int32)), (.ref sx)])) rfl rfl (hb hby d4_104)
        have V331 : Arv Z h331 sx kx .double nx [(.double x0), (.double x1), (.double (FP.l2d ((0 : Int64) + ve2))), (.double (FP.l2d (0 : Int64))), (.double x4)] (.double (FP.l2d (0 : Int64))) := Arv.set Ar330 q330 S330 N330v H330v G330v rfl W331 2 rfl (Nat.le_of_ble_eq_true rfl)
        have N331 := Fr.snoc X331 Nh310 gsx
        obtain ⟨Lh332, Xh332, Nh332⟩ := own_hide X331 N331
        refine own_preJ (B := T331.setTop (mkF m 105 #[.val (.ref a1), .val (.ref a2), .val (.double d3), .second, .val (.int (3 : Int32)), .val (.double (FP.l2d ((0 : Int64) + ve2))), .second] [])) (fun t k => st331 t k) ?_
        refine own_preJ (B := T331.setTop (mkF m 107 #[.val (.ref a1), .val (.ref a2), .val (.double d3), .second, .val (.int (3 : Int32)), .val (.double (FP.l2d ((0 : Int64) + ve2))), .second] [(.double (FP.l2d ((0 : Int64) + ve2)))])) (fun t k => XS.dload Xh332.here hx rfl (hb hby d4_105) rfl k) ?_
        refine own_preJ (B := T331.setTop (mkF m 108 #[.val (.ref a1), .val (.ref a2), .val (.double d3), .second, .val (.int (3 : Int32)), .val (.double (FP.l2d ((0 : Int64) + ve2))), .second] [(.double d3), (.double (FP.l2d ((0 : Int64) + ve2)))])) (fun t k => XS.dloadN Xh332.here hx rfl (hb hby d4_107) rfl k) ?_
        refine own_preJ (B := T331.setTop (mkF m 109 #[.val (.ref a1), .val (.ref a2), .val (.double d3), .second, .val (.int (3 : Int32)), .val (.double (FP.l2d ((0 : Int64) + ve2))), .second] [(.int (lcmpW (((0 : Int64) + ve2) + ((0 : Int64) + ve2)) kq))])) (fun t k => XS.dcmpS Xh332.here hx rfl (hb hby d4_108) rfl (own_cmpd hd (own_Badd own_B0 hB2 (by decide)) (by decide) hk _) k) ?_
        by_cases hc109_333 : (((0 : Int64) + ve2) + ((0 : Int64) + ve2)) < kq
        · refine own_preJ (B := T331.setTop (mkF m 115 #[.val (.ref a1), .val (.ref a2), .val (.double d3), .second, .val (.int (3 : Int32)), .val (.double (FP.l2d ((0 : Int64) + ve2))), .second] [])) (fun t k => XS.ifYes Xh332.here hx rfl (pc0 := 109) (pc' := 115) rfl (hb hby d4_109) rfl ((if0 _ _).trans (tlt ((lw_lt (((0 : Int64) + ve2) + ((0 : Int64) + ve2)) kq).mpr hc109_333)).1) (by decide) (by decide) k) ?_
          refine own_preJ (B := T331.setTop (mkF m 118 #[.val (.ref a1), .val (.ref a2), .val (.double d3), .second, .val (.int (2 : Int32)), .val (.double (FP.l2d ((0 : Int64) + ve2))), .second] [])) (fun t k => XS.iinc Xh332.here hx rfl (hb hby d4_115) rfl (l' := #[.val (.ref a1), .val (.ref a2), .val (.double d3), .second, .val (.int (2 : Int32)), .val (.double (FP.l2d ((0 : Int64) + ve2))), .second]) rfl k) ?_
          refine own_preJ (B := T331.setTop (mkF m 68 #[.val (.ref a1), .val (.ref a2), .val (.double d3), .second, .val (.int (2 : Int32)), .val (.double (FP.l2d ((0 : Int64) + ve2))), .second] [])) (fun t k => XS.goto Xh332.here hx rfl (pc0 := 118) (pc' := 68) rfl (hb hby d4_118) (by decide) (by decide) k) ?_
          refine own_preJ (B := T331.setTop (mkF m 70 #[.val (.ref a1), .val (.ref a2), .val (.double d3), .second, .val (.int (2 : Int32)), .val (.double (FP.l2d ((0 : Int64) + ve2))), .second] [(.int (2 : Int32))])) (fun t k => XS.iload Xh332.here hx rfl (hb hby d4_68) rfl k) ?_
          refine own_preJ (B := T331.setTop (mkF m 73 #[.val (.ref a1), .val (.ref a2), .val (.double d3), .second, .val (.int (2 : Int32)), .val (.double (FP.l2d ((0 : Int64) + ve2))), .second] [])) (fun t k => XS.ifNo Xh332.here hx rfl (hb hby d4_70) rfl ((if0 _ _).trans (tlt (by decide : (0 : Int32) < (2 : Int32))).2.2.2) k) ?_
          refine own_preJ (B := T331.setTop (mkF m 74 #[.val (.ref a1), .val (.ref a2), .val (.double d3), .second, .val (.int (2 : Int32)), .val (.double (FP.l2d ((0 : Int64) + ve2))), .second] [(.ref a1)])) (fun t k => XS.aloadN Xh332.here hx rfl (hb hby d4_73) rfl rfl k) ?_
          have c334 := (Fld.other W331 c320 (Or.inl nesx0))
          obtain ⟨T335, X335, e335, st335⟩ := getF Xh332 hx hZ hown (host := "") (Or.inl (hw _ (ow 19 rfl))) Via.refl e331 c334 (g := (mkF m 74 #[.val (.ref a1), .val (.ref a2), .val (.double d3), .second, .val (.int (2 : Int32)), .val (.double (FP.l2d ((0 : Int64) + ve2))), .second] [(.ref a1)])) rfl rfl (hb hby d4_74)
          refine own_preJ (B := T335.setTop (mkF m 77 #[.val (.ref a1), .val (.ref a2), .val (.double d3), .second, .val (.int (2 : Int32)), .val (.double (FP.l2d ((0 : Int64) + ve2))), .second] [(.ref sx)])) (fun t k => st335 t k) ?_
          refine own_preJ (B := T335.setTop (mkF m 79 #[.val (.ref a1), .val (.ref a2), .val (.double d3), .second, .val (.int (2 : Int32)), .val (.double (FP.l2d ((0 : Int64) + ve2))), .second] [(.int (2 : Int32)), (.ref sx)])) (fun t k => XS.iload X335.here hx rfl (hb hby d4_77) rfl k) ?_
          obtain ⟨cl336, Ar336, q336, S336, N336v, H336v, G336v⟩ := V331
          have V331 : Arv Z h331 sx kx .double nx [(.double x0), (.double x1), (.double (FP.l2d ((0 : Int64) + ve2))), (.double (FP.l2d (0 : Int64))), (.double x4)] (.double (FP.l2d (0 : Int64))) := ⟨cl336, Ar336, q336, S336, N336v, H336v, G336v⟩
          have hin336 : ¬ ((2 : Int32) < 0 ∨ cl336.slots.size ≤ ((2 : Int32)).toNatClampNeg) := inb_of S336 ⟨by decide, own_ltle hlt (by decide)⟩
          have hat336 : cl336.slots[((2 : Int32)).toNatClampNeg]? = some (.double (FP.l2d ((0 : Int64) + ve2))) := H336v.at hin336 rfl
          refine own_preJ (B := T335.setTop (mkF m 80 #[.val (.ref a1), .val (.ref a2), .val (.double d3), .second, .val (.int (2 : Int32)), .val (.double (FP.l2d ((0 : Int64) + ve2))), .second] [(.double (FP.l2d ((0 : Int64) + ve2)))])) (fun t k => X335.daload hx (j := (2 : Int32)) (v := (.double (FP.l2d ((0 : Int64) + ve2)))) (by rw [e335]; exact Ar336.1) (State.isArrayOf_alike hZ.alike Ar336.2.1) Ar336.2.2 hin336 hat336 (g := (mkF m 79 #[.val (.ref a1), .val (.ref a2), .val (.double d3), .second, .val (.int (2 : Int32)), .val (.double (FP.l2d ((0 : Int64) + ve2))), .second] [(.int (2 : Int32)), (.ref sx)])) rfl rfl (hb hby d4_79) t k) ?_
          refine own_preJ (B := T335.setTop (mkF m 81 #[.val (.ref a1), .val (.ref a2), .val (.double d3), .second, .val (.int (2 : Int32)), .val (.double (FP.l2d ((0 : Int64) + ve2))), .second] [(.ref a1), (.double (FP.l2d ((0 : Int64) + ve2)))])) (fun t k => XS.aloadN X335.here hx rfl (hb hby d4_80) rfl rfl k) ?_
          have c337 := (Fld.other W331 c323 (Or.inl nesx0))
          obtain ⟨T338, X338, e338, st338⟩ := getF X335 hx hZ hown (host := "") (Or.inl (hw _ (ow 25 rfl))) Via.refl e335 c337 (g := (mkF m 81 #[.val (.ref a1), .val (.ref a2), .val (.double d3), .second, .val (.int (2 : Int32)), .val (.double (FP.l2d ((0 : Int64) + ve2))), .second] [(.ref a1), (.double (FP.l2d ((0 : Int64) + ve2)))])) rfl rfl (hb hby d4_81)
          refine own_preJ (B := T338.setTop (mkF m 84 #[.val (.ref a1), .val (.ref a2), .val (.double d3), .second, .val (.int (2 : Int32)), .val (.double (FP.l2d ((0 : Int64) + ve2))), .second] [(.ref w_weights_a1), (.double (FP.l2d ((0 : Int64) + ve2)))])) (fun t k => st338 t k) ?_
          refine own_preJ (B := T338.setTop (mkF m 85 #[.val (.ref a1), .val (.ref a2), .val (.double d3), .second, .val (.int (2 : Int32)), .val (.double (FP.l2d ((0 : Int64) + ve2))), .second] [(.ref a2), (.ref w_weights_a1), (.double (FP.l2d ((0 : Int64) + ve2)))])) (fun t k => XS.aloadN X338.here hx rfl (hb hby d4_84) rfl rfl k) ?_
          refine own_preJ (B := T338.setTop (mkF m 87 #[.val (.ref a1), .val (.ref a2), .val (.double d3), .second, .val (.int (2 : Int32)), .val (.double (FP.l2d ((0 : Int64) + ve2))), .second] [(.int (2 : Int32)), (.ref a2), (.ref w_weights_a1), (.double (FP.l2d ((0 : Int64) + ve2)))])) (fun t k => XS.iload X338.here hx rfl (hb hby d4_85) rfl k) ?_
          refine own_preJ (B := T338.setTop (mkF m 88 #[.val (.ref a1), .val (.ref a2), .val (.double d3), .second, .val (.int (2 : Int32)), .val (.double (FP.l2d ((0 : Int64) + ve2))), .second] [(.int (1 : Int32)), (.int (2 : Int32)), (.ref a2), (.ref w_weights_a1), (.double (FP.l2d ((0 : Int64) + ve2)))])) (fun t k => XS.iconst X338.here hx rfl (hb hby d4_87) k) ?_
          refine own_preJ (B := T338.setTop (mkF m 89 #[.val (.ref a1), .val (.ref a2), .val (.double d3), .second, .val (.int (2 : Int32)), .val (.double (FP.l2d ((0 : Int64) + ve2))), .second] [(.int (1 : Int32)), (.ref a2), (.ref w_weights_a1), (.double (FP.l2d ((0 : Int64) + ve2)))])) (fun t k => XS.isub X338.here hx rfl (hb hby d4_88) rfl k) ?_
          have c339 := (Arv.other c325 W331 nesx2)
          obtain ⟨cl340, Ar340, q340, S340, N340v, H340v, G340v⟩ := c339
          have c339 : Arv Z h331 a2 k_a2 .int (3 : Int32) [(.int r0), (.int r1), (.int r2), (.int r3)] (.int (0 : Int32)) := ⟨cl340, Ar340, q340, S340, N340v, H340v, G340v⟩
          have hin340 : ¬ ((1 : Int32) < 0 ∨ cl340.slots.size ≤ ((1 : Int32)).toNatClampNeg) := inb_of S340 ⟨by decide, by decide⟩
          have hat340 : cl340.slots[((1 : Int32)).toNatClampNeg]? = some (.int r1) := H340v.at hin340 rfl
          refine own_preJ (B := T338.setTop (mkF m 90 #[.val (.ref a1), .val (.ref a2), .val (.double d3), .second, .val (.int (2 : Int32)), .val (.double (FP.l2d ((0 : Int64) + ve2))), .second] [(.int r1), (.ref w_weights_a1), (.double (FP.l2d ((0 : Int64) + ve2)))])) (fun t k => X338.iaload hx (j := (1 : Int32)) (v := (.int r1)) (by rw [e338]; exact Ar340.1) (State.isArrayOf_alike hZ.alike Ar340.2.1) Ar340.2.2 hin340 hat340 (g := (mkF m 89 #[.val (.ref a1), .val (.ref a2), .val (.double d3), .second, .val (.int (2 : Int32)), .val (.double (FP.l2d ((0 : Int64) + ve2))), .second] [(.int (1 : Int32)), (.ref a2), (.ref w_weights_a1), (.double (FP.l2d ((0 : Int64) + ve2)))])) rfl rfl (hb hby d4_89) t k) ?_
          have c341 := (Arv.other c327 W331 nesx1)
          obtain ⟨cl342, Ar342, q342, S342, N342v, H342v, G342v⟩ := c341
          have c341 : Arv Z h331 w_weights_a1 k_w_weights_a1 .double (8 : Int32) [(.double (FP.l2d w0)), (.double (FP.l2d w1)), (.double (FP.l2d w2)), (.double (FP.l2d w3)), (.double (FP.l2d w4)), (.double (FP.l2d w5)), (.double (FP.l2d w6)), (.double (FP.l2d w7))] (.double (FP.l2d (0 : Int64))) := ⟨cl342, Ar342, q342, S342, N342v, H342v, G342v⟩
          have hin342 : ¬ (r1 < 0 ∨ cl342.slots.size ≤ (r1).toNatClampNeg) := inb_of S342 hR1
          have hat342 : cl342.slots[(r1).toNatClampNeg]? = some (.double (FP.l2d ve1)) := H342v.at hin342 (own_getE hR1 hE1)
          refine own_preJ (B := T338.setTop (mkF m 91 #[.val (.ref a1), .val (.ref a2), .val (.double d3), .second, .val (.int (2 : Int32)), .val (.double (FP.l2d ((0 : Int64) + ve2))), .second] [(.double (FP.l2d ve1)), (.double (FP.l2d ((0 : Int64) + ve2)))])) (fun t k => X338.daload hx (j := r1) (v := (.double (FP.l2d ve1))) (by rw [e338]; exact Ar342.1) (State.isArrayOf_alike hZ.alike Ar342.2.1) Ar342.2.2 hin342 hat342 (g := (mkF m 90 #[.val (.ref a1), .val (.ref a2), .val (.double d3), .second, .val (.int (2 : Int32)), .val (.double (FP.l2d ((0 : Int64) + ve2))), .second] [(.int r1), (.ref w_weights_a1), (.double (FP.l2d ((0 : Int64) + ve2)))])) rfl rfl (hb hby d4_90) t k) ?_
          refine own_preJ (B := T338.setTop (mkF m 92 #[.val (.ref a1), .val (.ref a2), .val (.double d3), .second, .val (.int (2 : Int32)), .val (.double (FP.l2d ((0 : Int64) + ve2))), .second] [(.double (FP.l2d (((0 : Int64) + ve2) + ve1)))])) (fun t k => XS.daddS X338.here hx rfl (hb hby d4_91) rfl (nn_w (own_add (own_Badd own_B0 hB2 (by decide)) hB1 (by decide))) (own_add (own_Badd own_B0 hB2 (by decide)) hB1 (by decide)) k) ?_
          refine own_preJ (B := T338.setTop (mkF m 94 #[.val (.ref a1), .val (.ref a2), .val (.double d3), .second, .val (.int (2 : Int32)), .val (.double (FP.l2d (((0 : Int64) + ve2) + ve1))), .second] [])) (fun t k => XS.dstore X338.here hx rfl (hb hby d4_92) rfl (l' := #[.val (.ref a1), .val (.ref a2), .val (.double d3), .second, .val (.int (2 : Int32)), .val (.double (FP.l2d (((0 : Int64) + ve2) + ve1))), .second]) rfl k) ?_
          refine own_preJ (B := T338.setTop (mkF m 95 #[.val (.ref a1), .val (.ref a2), .val (.double d3), .second, .val (.int (2 : Int32)), .val (.double (FP.l2d (((0 : Int64) + ve2) + ve1))), .second] [(.ref a1)])) (fun t k => XS.aloadN X338.here hx rfl (hb hby d4_94) rfl rfl k) ?_
          obtain ⟨T343, X343, e343, st343⟩ := getF X338 hx hZ hown (host := "") (Or.inl (hw _ (ow 19 rfl))) Via.refl e338 c334 (g := (mkF m 95 #[.val (.ref a1), .val (.ref a2), .val (.double d3), .second, .val (.int (2 : Int32)), .val (.double (FP.l2d (((0 : Int64) + ve2) + ve1))), .second] [(.ref a1)])) rfl rfl (hb hby d4_95)
          refine own_preJ (B := T343.setTop (mkF m 98 #[.val (.ref a1), .val (.ref a2), .val (.double d3), .second, .val (.int (2 : Int32)), .val (.double (FP.l2d (((0 : Int64) + ve2) + ve1))), .second] [(.ref sx)])) (fun t k => st343 t k) ?_
          refine own_preJ (B := T343.setTop (mkF m 100 #[.val (.ref a1), .val (.ref a2), .val (.double d3), .second, .val (.int (2 : Int32)), .val (.double (FP.l2d (((0 : Int64) + ve2) + ve1))), .second] [(.int (2 : Int32)), (.ref sx)])) (fun t k => XS.iload X343.here hx rfl (hb hby d4_98) rfl k) ?_
          refine own_preJ (B := T343.setTop (mkF m 101 #[.val (.ref a1), .val (.ref a2), .val (.double d3), .second, .val (.int (2 : Int32)), .val (.double (FP.l2d (((0 : Int64) + ve2) + ve1))), .second] [(.int (1 : Int32)), (.int (2 : Int32)), (.ref sx)])) (fun t k => XS.iconst X343.here hx rfl (hb hby d4_100) k) ?_
          refine own_preJ (B := T343.setTop (mkF m 102 #[.val (.ref a1), .val (.ref a2), .val (.double d3), .second, .val (.int (2 : Int32)), .val (.double (FP.l2d (((0 : Int64) + ve2) + ve1))), .second] [(.int (1 : Int32)), (.ref sx)])) (fun t k => XS.isub X343.here hx rfl (hb hby d4_101) rfl k) ?_
          refine own_preJ (B := T343.setTop (mkF m 104 #[.val (.ref a1), .val (.ref a2), .val (.double d3), .second, .val (.int (2 : Int32)), .val (.double (FP.l2d (((0 : Int64) + ve2) + ve1))), .second] [(.double (FP.l2d (((0 : Int64) + ve2) + ve1))), (.int (1 : Int32)), (.ref sx)])) (fun t k => XS.dload X343.here hx rfl (hb hby d4_102) rfl k) ?_
          have K344 : Keep h0 h331 [a1, w_suffix_a1] := (Keep.wr K318 W331 msx)
          obtain ⟨cl345, Ar345, q345, S345, N345v, H345v, G345v⟩ := V331
          have V331 : Arv Z h331 sx kx .double nx [(.double x0), (.double x1), (.double (FP.l2d ((0 : Int64) + ve2))), (.double (FP.l2d (0 : Int64))), (.double x4)] (.double (FP.l2d (0 : Int64))) := ⟨cl345, Ar345, q345, S345, N345v, H345v, G345v⟩
          have hin345 : ¬ ((1 : Int32) < 0 ∨ cl345.slots.size ≤ ((1 : Int32)).toNatClampNeg) := inb_of S345 ⟨by decide, own_ltle hlt (by decide)⟩
          obtain ⟨T346, h346, X346, e346, W346, st346⟩ := stD X343 hx hZ e343 Ar345 (j := (1 : Int32)) hin345 (g := (mkF m 104 #[.val (.ref a1), .val (.ref a2), .val (.double d3), .second, .val (.int (2 : Int32)), .val (.double (FP.l2d (((0 : Int64) + ve2) + ve1))), .second] [(.double (FP.l2d (((0 : Int64) + ve2) + ve1))), (.int (1 : Int32)), (.ref sx)])) rfl rfl (hb hby d4_104)
          have V346 : Arv Z h346 sx kx .double nx [(.double x0), (.double (FP.l2d (((0 : Int64) + ve2) + ve1))), (.double (FP.l2d ((0 : Int64) + ve2))), (.double (FP.l2d (0 : Int64))), (.double x4)] (.double (FP.l2d (0 : Int64))) := Arv.set Ar345 q345 S345 N345v H345v G345v rfl W346 1 rfl (Nat.le_of_ble_eq_true rfl)
          have N346 := Fr.snoc X346 Nh332 gsx
          obtain ⟨Lh347, Xh347, Nh347⟩ := own_hide X346 N346
          refine own_preJ (B := T346.setTop (mkF m 105 #[.val (.ref a1), .val (.ref a2), .val (.double d3), .second, .val (.int (2 : Int32)), .val (.double (FP.l2d (((0 : Int64) + ve2) + ve1))), .second] [])) (fun t k => st346 t k) ?_
          refine own_preJ (B := T346.setTop (mkF m 107 #[.val (.ref a1), .val (.ref a2), .val (.double d3), .second, .val (.int (2 : Int32)), .val (.double (FP.l2d (((0 : Int64) + ve2) + ve1))), .second] [(.double (FP.l2d (((0 : Int64) + ve2) + ve1)))])) (fun t k => XS.dload Xh347.here hx rfl (hb hby d4_105) rfl k) ?_
          refine own_preJ (B := T346.setTop (mkF m 108 #[.val (.ref a1), .val (.ref a2), .val (.double d3), .second, .val (.int (2 : Int32)), .val (.double (FP.l2d (((0 : Int64) + ve2) + ve1))), .second] [(.double d3), (.double (FP.l2d (((0 : Int64) + ve2) + ve1)))])) (fun t k => XS.dloadN Xh347.here hx rfl (hb hby d4_107) rfl k) ?_
          refine own_preJ (B := T346.setTop (mkF m 109 #[.val (.ref a1), .val (.ref a2), .val (.double d3), .second, .val (.int (2 : Int32)), .val (.double (FP.l2d (((0 : Int64) + ve2) + ve1))), .second] [(.int (lcmpW ((((0 : Int64) + ve2) + ve1) + (((0 : Int64) + ve2) + ve1)) kq))])) (fun t k => XS.dcmpS Xh347.here hx rfl (hb hby d4_108) rfl (own_cmpd hd (own_Badd (own_Badd own_B0 hB2 (by decide)) hB1 (by decide)) (by decide) hk _) k) ?_
          by_cases hc109_348 : ((((0 : Int64) + ve2) + ve1) + (((0 : Int64) + ve2) + ve1)) < kq
          · refine own_preJ (B := T346.setTop (mkF m 115 #[.val (.ref a1), .val (.ref a2), .val (.double d3), .second, .val (.int (2 : Int32)), .val (.double (FP.l2d (((0 : Int64) + ve2) + ve1))), .second] [])) (fun t k => XS.ifYes Xh347.here hx rfl (pc0 := 109) (pc' := 115) rfl (hb hby d4_109) rfl ((if0 _ _).trans (tlt ((lw_lt ((((0 : Int64) + ve2) + ve1) + (((0 : Int64) + ve2) + ve1)) kq).mpr hc109_348)).1) (by decide) (by decide) k) ?_
            refine own_preJ (B := T346.setTop (mkF m 118 #[.val (.ref a1), .val (.ref a2), .val (.double d3), .second, .val (.int (1 : Int32)), .val (.double (FP.l2d (((0 : Int64) + ve2) + ve1))), .second] [])) (fun t k => XS.iinc Xh347.here hx rfl (hb hby d4_115) rfl (l' := #[.val (.ref a1), .val (.ref a2), .val (.double d3), .second, .val (.int (1 : Int32)), .val (.double (FP.l2d (((0 : Int64) + ve2) + ve1))), .second]) rfl k) ?_
            refine own_preJ (B := T346.setTop (mkF m 68 #[.val (.ref a1), .val (.ref a2), .val (.double d3), .second, .val (.int (1 : Int32)), .val (.double (FP.l2d (((0 : Int64) + ve2) + ve1))), .second] [])) (fun t k => XS.goto Xh347.here hx rfl (pc0 := 118) (pc' := 68) rfl (hb hby d4_118) (by decide) (by decide) k) ?_
            refine own_preJ (B := T346.setTop (mkF m 70 #[.val (.ref a1), .val (.ref a2), .val (.double d3), .second, .val (.int (1 : Int32)), .val (.double (FP.l2d (((0 : Int64) + ve2) + ve1))), .second] [(.int (1 : Int32))])) (fun t k => XS.iload Xh347.here hx rfl (hb hby d4_68) rfl k) ?_
            refine own_preJ (B := T346.setTop (mkF m 73 #[.val (.ref a1), .val (.ref a2), .val (.double d3), .second, .val (.int (1 : Int32)), .val (.double (FP.l2d (((0 : Int64) + ve2) + ve1))), .second] [])) (fun t k => XS.ifNo Xh347.here hx rfl (hb hby d4_70) rfl ((if0 _ _).trans (tlt (by decide : (0 : Int32) < (1 : Int32))).2.2.2) k) ?_
            refine own_preJ (B := T346.setTop (mkF m 74 #[.val (.ref a1), .val (.ref a2), .val (.double d3), .second, .val (.int (1 : Int32)), .val (.double (FP.l2d (((0 : Int64) + ve2) + ve1))), .second] [(.ref a1)])) (fun t k => XS.aloadN Xh347.here hx rfl (hb hby d4_73) rfl rfl k) ?_
            have c349 := (Fld.other W346 c334 (Or.inl nesx0))
            obtain ⟨T350, X350, e350, st350⟩ := getF Xh347 hx hZ hown (host := "") (Or.inl (hw _ (ow 19 rfl))) Via.refl e346 c349 (g := (mkF m 74 #[.val (.ref a1), .val (.ref a2), .val (.double d3), .second, .val (.int (1 : Int32)), .val (.double (FP.l2d (((0 : Int64) + ve2) + ve1))), .second] [(.ref a1)])) rfl rfl (hb hby d4_74)
            refine own_preJ (B := T350.setTop (mkF m 77 #[.val (.ref a1), .val (.ref a2), .val (.double d3), .second, .val (.int (1 : Int32)), .val (.double (FP.l2d (((0 : Int64) + ve2) + ve1))), .second] [(.ref sx)])) (fun t k => st350 t k) ?_
            refine own_preJ (B := T350.setTop (mkF m 79 #[.val (.ref a1), .val (.ref a2), .val (.double d3), .second, .val (.int (1 : Int32)), .val (.double (FP.l2d (((0 : Int64) + ve2) + ve1))), .second] [(.int (1 : Int32)), (.ref sx)])) (fun t k => XS.iload X350.here hx rfl (hb hby d4_77) rfl k) ?_
            obtain ⟨cl351, Ar351, q351, S351, N351v, H351v, G351v⟩ := V346
            have V346 : Arv Z h346 sx kx .double nx [(.double x0), (.double (FP.l2d (((0 : Int64) + ve2) + ve1))), (.double (FP.l2d ((0 : Int64) + ve2))), (.double (FP.l2d (0 : Int64))), (.double x4)] (.double (FP.l2d (0 : Int64))) := ⟨cl351, Ar351, q351, S351, N351v, H351v, G351v⟩
            have hin351 : ¬ ((1 : Int32) < 0 ∨ cl351.slots.size ≤ ((1 : Int32)).toNatClampNeg) := inb_of S351 ⟨by decide, own_ltle hlt (by decide)⟩
            have hat351 : cl351.slots[((1 : Int32)).toNatClampNeg]? = some (.double (FP.l2d (((0 : Int64) + ve2) + ve1))) := H351v.at hin351 rfl
            refine own_preJ (B := T350.setTop (mkF m 80 #[.val (.ref a1), .val (.ref a2), .val (.double d3), .second, .val (.int (1 : Int32)), .val (.double (FP.l2d (((0 : Int64) + ve2) + ve1))), .second] [(.double (FP.l2d (((0 : Int64) + ve2) + ve1)))])) (fun t k => X350.daload hx (j := (1 : Int32)) (v := (.double (FP.l2d (((0 : Int64) + ve2) + ve1)))) (by rw [e350]; exact Ar351.1) (State.isArrayOf_alike hZ.alike Ar351.2.1) Ar351.2.2 hin351 hat351 (g := (mkF m 79 #[.val (.ref a1), .val (.ref a2), .val (.double d3), .second, .val (.int (1 : Int32)), .val (.double (FP.l2d (((0 : Int64) + ve2) + ve1))), .second] [(.int (1 : Int32)), (.ref sx)])) rfl rfl (hb hby d4_79) t k) ?_
            refine own_preJ (B := T350.setTop (mkF m 81 #[.val (.ref a1), .val (.ref a2), .val (.double d3), .second, .val (.int (1 : Int32)), .val (.double (FP.l2d (((0 : Int64) + ve2) + ve1))), .second] [(.ref a1), (.double (FP.l2d (((0 : Int64) + ve2) + ve1)))])) (fun t k => XS.aloadN X350.here hx rfl (hb hby d4_80) rfl rfl k) ?_
            have c352 := (Fld.other W346 c337 (Or.inl nesx0))
            obtain ⟨T353, X353, e353, st353⟩ := getF X350 hx hZ hown (host := "") (Or.inl (hw _ (ow 25 rfl))) Via.refl e350 c352 (g := (mkF m 81 #[.val (.ref a1), .val (.ref a2), .val (.double d3), .second, .val (.int (1 : Int32)), .val (.double (FP.l2d (((0 : Int64) + ve2) + ve1))), .second] [(.ref a1), (.double (FP.l2d (((0 : Int64) + ve2) + ve1)))])) rfl rfl (hb hby d4_81)
            refine own_preJ (B := T353.setTop (mkF m 84 #[.val (.ref a1), .val (.ref a2), .val (.double d3), .second, .val (.int (1 : Int32)), .val (.double (FP.l2d (((0 : Int64) + ve2) + ve1))), .second] [(.ref w_weights_a1), (.double (FP.l2d (((0 : Int64) + ve2) + ve1)))])) (fun t k => st353 t k) ?_
            refine own_preJ (B := T353.setTop (mkF m 85 #[.val (.ref a1), .val (.ref a2), .val (.double d3), .second, .val (.int (1 : Int32)), .val (.double (FP.l2d (((0 : Int64) + ve2) + ve1))), .second] [(.ref a2), (.ref w_weights_a1), (.double (FP.l2d (((0 : Int64) + ve2) + ve1)))])) (fun t k => XS.aloadN X353.here hx rfl (hb hby d4_84) rfl rfl k) ?_
            refine own_preJ (B := T353.setTop (mkF m 87 #[.val (.ref a1), .val (.ref a2), .val (.double d3), .second, .val (.int (1 : Int32)), .val (.double (FP.l2d (((0 : Int64) + ve2) + ve1))), .second] [(.int (1 : Int32)), (.ref a2), (.ref w_weights_a1), (.double (FP.l2d (((0 : Int64) + ve2) + ve1)))])) (fun t k => XS.iload X353.here hx rfl (hb hby d4_85) rfl k) ?_
            refine own_preJ (B := T353.setTop (mkF m 88 #[.val (.ref a1), .val (.ref a2), .val (.double d3), .second, .val (.int (1 : Int32)), .val (.double (FP.l2d (((0 : Int64) + ve2) + ve1))), .second] [(.int (1 : Int32)), (.int (1 : Int32)), (.ref a2), (.ref w_weights_a1), (.double (FP.l2d (((0 : Int64) + ve2) + ve1)))])) (fun t k => XS.iconst X353.here hx rfl (hb hby d4_87) k) ?_
            refine own_preJ (B := T353.setTop (mkF m 89 #[.val (.ref a1), .val (.ref a2), .val (.double d3), .second, .val (.int (1 : Int32)), .val (.double (FP.l2d (((0 : Int64) + ve2) + ve1))), .second] [(.int (0 : Int32)), (.ref a2), (.ref w_weights_a1), (.double (FP.l2d (((0 : Int64) + ve2) + ve1)))])) (fun t k => XS.isub X353.here hx rfl (hb hby d4_88) rfl k) ?_
            have c354 := (Arv.other c339 W346 nesx2)
            obtain ⟨cl355, Ar355, q355, S355, N355v, H355v, G355v⟩ := c354
            have c354 : Arv Z h346 a2 k_a2 .int (3 : Int32) [(.int r0), (.int r1), (.int r2), (.int r3)] (.int (0 : Int32)) := ⟨cl355, Ar355, q355, S355, N355v, H355v, G355v⟩
            have hin355 : ¬ ((0 : Int32) < 0 ∨ cl355.slots.size ≤ ((0 : Int32)).toNatClampNeg) := inb_of S355 ⟨by decide, by decide⟩
            have hat355 : cl355.slots[((0 : Int32)).toNatClampNeg]? = some (.int r0) := H355v.at hin355 rfl
            refine own_preJ (B := T353.setTop (mkF m 90 #[.val (.ref a1), .val (.ref a2), .val (.double d3), .second, .val (.int (1 : Int32)), .val (.double (FP.l2d (((0 : Int64) + ve2) + ve1))), .second] [(.int r0), (.ref w_weights_a1), (.double (FP.l2d (((0 : Int64) + ve2) + ve1)))])) (fun t k => X353.iaload hx (j := (0 : Int32)) (v := (.int r0)) (by rw [e353]; exact Ar355.1) (State.isArrayOf_alike hZ.alike Ar355.2.1) Ar355.2.2 hin355 hat355 (g := (mkF m 89 #[.val (.ref a1), .val (.ref a2), .val (.double d3), .second, .val (.int (1 : Int32)), .val (.double (FP.l2d (((0 : Int64) + ve2) + ve1))), .second] [(.int (0 : Int32)), (.ref a2), (.ref w_weights_a1), (.double (FP.l2d (((0 : Int64) + ve2) + ve1)))])) rfl rfl (hb hby d4_89) t k) ?_
            have c356 := (Arv.other c341 W346 nesx1)
            obtain ⟨cl357, Ar357, q357, S357, N357v, H357v, G357v⟩ := c356
            have c356 : Arv Z h346 w_weights_a1 k_w_weights_a1 .double (8 : Int32) [(.double (FP.l2d w0)), (.double (FP.l2d w1)), (.double (FP.l2d w2)), (.double (FP.l2d w3)), (.double (FP.l2d w4)), (.double (FP.l2d w5)), (.double (FP.l2d w6)), (.double (FP.l2d w7))] (.double (FP.l2d (0 : Int64))) := ⟨cl357, Ar357, q357, S357, N357v, H357v, G357v⟩
            have hin357 : ¬ (r0 < 0 ∨ cl357.slots.size ≤ (r0).toNatClampNeg) := inb_of S357 hR0
            have hat357 : cl357.slots[(r0).toNatClampNeg]? = some (.double (FP.l2d ve0)) := H357v.at hin357 (own_getE hR0 hE0)
            refine own_preJ (B := T353.setTop (mkF m 91 #[.val (.ref a1), .val (.ref a2), .val (.double d3), .second, .val (.int (1 : Int32)), .val (.double (FP.l2d (((0 : Int64) + ve2) + ve1))), .second] [(.double (FP.l2d ve0)), (.double (FP.l2d (((0 : Int64) + ve2) + ve1)))])) (fun t k => X353.daload hx (j := r0) (v := (.double (FP.l2d ve0))) (by rw [e353]; exact Ar357.1) (State.isArrayOf_alike hZ.alike Ar357.2.1) Ar357.2.2 hin357 hat357 (g := (mkF m 90 #[.val (.ref a1), .val (.ref a2), .val (.double d3), .second, .val (.int (1 : Int32)), .val (.double (FP.l2d (((0 : Int64) + ve2) + ve1))), .second] [(.int r0), (.ref w_weights_a1), (.double (FP.l2d (((0 : Int64) + ve2) + ve1)))])) rfl rfl (hb hby d4_90) t k) ?_
            refine own_preJ (B := T353.setTop (mkF m 92 #[.val (.ref a1), .val (.ref a2), .val (.double d3), .second, .val (.int (1 : Int32)), .val (.double (FP.l2d (((0 : Int64) + ve2) + ve1))), .second] [(.double (FP.l2d ((((0 : Int64) + ve2) + ve1) + ve0)))])) (fun t k => XS.daddS X353.here hx rfl (hb hby d4_91) rfl (nn_w (own_add (own_Badd (own_Badd own_B0 hB2 (by decide)) hB1 (by decide)) hB0 (by decide))) (own_add (own_Badd (own_Badd own_B0 hB2 (by decide)) hB1 (by decide)) hB0 (by decide)) k) ?_
            refine own_preJ (B := T353.setTop (mkF m 94 #[.val (.ref a1), .val (.ref a2), .val (.double d3), .second, .val (.int (1 : Int32)), .val (.double (FP.l2d ((((0 : Int64) + ve2) + ve1) + ve0))), .second] [])) (fun t k => XS.dstore X353.here hx rfl (hb hby d4_92) rfl (l' := #[.val (.ref a1), .val (.ref a2), .val (.double d3), .second, .val (.int (1 : Int32)), .val (.double (FP.l2d ((((0 : Int64) + ve2) + ve1) + ve0))), .second]) rfl k) ?_
            refine own_preJ (B := T353.setTop (mkF m 95 #[.val (.ref a1), .val (.ref a2), .val (.double d3), .second, .val (.int (1 : Int32)), .val (.double (FP.l2d ((((0 : Int64) + ve2) + ve1) + ve0))), .second] [(.ref a1)])) (fun t k => XS.aloadN X353.here hx rfl (hb hby d4_94) rfl rfl k) ?_
            obtain ⟨T358, X358, e358, st358⟩ := getF X353 hx hZ hown (host := "") (Or.inl (hw _ (ow 19 rfl))) Via.refl e353 c349 (g := (mkF m 95 #[.val (.ref a1), .val (.ref a2), .val (.double d3), .second, .val (.int (1 : Int32)), .val (.double (FP.l2d ((((0 : Int64) + ve2) + ve1) + ve0))), .second] [(.ref a1)])) rfl rfl (hb hby d4_95)
            refine own_preJ (B := T358.setTop (mkF m 98 #[.val (.ref a1), .val (.ref a2), .val (.double d3), .second, .val (.int (1 : Int32)), .val (.double (FP.l2d ((((0 : Int64) + ve2) + ve1) + ve0))), .second] [(.ref sx)])) (fun t k => st358 t k) ?_
            refine own_preJ (B := T358.setTop (mkF m 100 #[.val (.ref a1), .val (.ref a2), .val (.double d3), .second, .val (.int (1 : Int32)), .val (.double (FP.l2d ((((0 : Int64) + ve2) + ve1) + ve0))), .second] [(.int (1 : Int32)), (.ref sx)])) (fun t k => XS.iload X358.here hx rfl (hb hby d4_98) rfl k) ?_
            refine own_preJ (B := T358.setTop (mkF m 101 #[.val (.ref a1), .val (.ref a2), .val (.double d3), .second, .val (.int (1 : Int32)), .val (.double (FP.l2d ((((0 : Int64) + ve2) + ve1) + ve0))), .second] [(.int (1 : Int32)), (.int (1 : Int32)), (.ref sx)])) (fun t k => XS.iconst X358.here hx rfl (hb hby d4_100) k) ?_
            refine own_preJ (B := T358.setTop (mkF m 102 #[.val (.ref a1), .val (.ref a2), .val (.double d3), .second, .val (.int (1 : Int32)), .val (.double (FP.l2d ((((0 : Int64) + ve2) + ve1) + ve0))), .second] [(.int (0 : Int32)), (.ref sx)])) (fun t k => XS.isub X358.here hx rfl (hb hby d4_101) rfl k) ?_
            refine own_preJ (B := T358.setTop (mkF m 104 #[.val (.ref a1), .val (.ref a2), .val (.double d3), .second, .val (.int (1 : Int32)), .val (.double (FP.l2d ((((0 : Int64) + ve2) + ve1) + ve0))), .second] [(.double (FP.l2d ((((0 : Int64) + ve2) + ve1) + ve0))), (.int (0 : Int32)), (.ref sx)])) (fun t k => XS.dload X358.here hx rfl (hb hby d4_102) rfl k) ?_
            have K359 : Keep h0 h346 [a1, w_suffix_a1] := (Keep.wr K344 W346 msx)
            obtain ⟨cl360, Ar360, q360, S360, N360v, H360v, G360v⟩ := V346
            have V346 : Arv Z h346 sx kx .double nx [(.double x0), (.double (FP.l2d (((0 : Int64) + ve2) + ve1))), (.double (FP.l2d ((0 : Int64) + ve2))), (.double (FP.l2d (0 : Int64))), (.double x4)] (.double (FP.l2d (0 : Int64))) := ⟨cl360, Ar360, q360, S360, N360v, H360v, G360v⟩
            have hin360 : ¬ ((0 : Int32) < 0 ∨ cl360.slots.size ≤ ((0 : Int32)).toNatClampNeg) := inb_of S360 ⟨by decide, own_ltle hlt (by decide)⟩
            obtain ⟨T361, h361, X361, e361, W361, st361⟩ := stD X358 hx hZ e358 Ar360 (j := (0 : Int32)) hin360 (g := (mkF m 104 #[.val (.ref a1), .val (.ref a2), .val (.double d3), .second, .val (.int (1 : Int32)), .val (.double (FP.l2d ((((0 : Int64) + ve2) + ve1) + ve0))), .second] [(.double (FP.l2d ((((0 : Int64) + ve2) + ve1) + ve0))), (.int (0 : Int32)), (.ref sx)])) rfl rfl (hb hby d4_104)
            have V361 : Arv Z h361 sx kx .double nx [(.double (FP.l2d ((((0 : Int64) + ve2) + ve1) + ve0))), (.double (FP.l2d (((0 : Int64) + ve2) + ve1))), (.double (FP.l2d ((0 : Int64) + ve2))), (.double (FP.l2d (0 : Int64))), (.double x4)] (.double (FP.l2d (0 : Int64))) := Arv.set Ar360 q360 S360 N360v H360v G360v rfl W361 0 rfl (Nat.le_of_ble_eq_true rfl)
            have N361 := Fr.snoc X361 Nh347 gsx
            obtain ⟨Lh362, Xh362, Nh362⟩ := own_hide X361 N361
            refine own_preJ (B := T361.setTop (mkF m 105 #[.val (.ref a1), .val (.ref a2), .val (.double d3), .second, .val (.int (1 : Int32)), .val (.double (FP.l2d ((((0 : Int64) + ve2) + ve1) + ve0))), .second] [])) (fun t k => st361 t k) ?_
            refine own_preJ (B := T361.setTop (mkF m 107 #[.val (.ref a1), .val (.ref a2), .val (.double d3), .second, .val (.int (1 : Int32)), .val (.double (FP.l2d ((((0 : Int64) + ve2) + ve1) + ve0))), .second] [(.double (FP.l2d ((((0 : Int64) + ve2) + ve1) + ve0)))])) (fun t k => XS.dload Xh362.here hx rfl (hb hby d4_105) rfl k) ?_
            refine own_preJ (B := T361.setTop (mkF m 108 #[.val (.ref a1), .val (.ref a2), .val (.double d3), .second, .val (.int (1 : Int32)), .val (.double (FP.l2d ((((0 : Int64) + ve2) + ve1) + ve0))), .second] [(.double d3), (.double (FP.l2d ((((0 : Int64) + ve2) + ve1) + ve0)))])) (fun t k => XS.dloadN Xh362.here hx rfl (hb hby d4_107) rfl k) ?_
            refine own_preJ (B := T361.setTop (mkF m 109 #[.val (.ref a1), .val (.ref a2), .val (.double d3), .second, .val (.int (1 : Int32)), .val (.double (FP.l2d ((((0 : Int64) + ve2) + ve1) + ve0))), .second] [(.int (lcmpW (((((0 : Int64) + ve2) + ve1) + ve0) + ((((0 : Int64) + ve2) + ve1) + ve0)) kq))])) (fun t k => XS.dcmpS Xh362.here hx rfl (hb hby d4_108) rfl (own_cmpd hd (own_Badd (own_Badd (own_Badd own_B0 hB2 (by decide)) hB1 (by decide)) hB0 (by decide)) (by decide) hk _) k) ?_
            by_cases hc109_363 : (((((0 : Int64) + ve2) + ve1) + ve0) + ((((0 : Int64) + ve2) + ve1) + ve0)) < kq
            · refine own_preJ (B := T361.setTop (mkF m 115 #[.val (.ref a1), .val (.ref a2), .val (.double d3), .second, .val (.int (1 : Int32)), .val (.double (FP.l2d ((((0 : Int64) + ve2) + ve1) + ve0))), .second] [])) (fun t k => XS.ifYes Xh362.here hx rfl (pc0 := 109) (pc' := 115) rfl (hb hby d4_109) rfl ((if0 _ _).trans (tlt ((lw_lt (((((0 : Int64) + ve2) + ve1) + ve0) + ((((0 : Int64) + ve2) + ve1) + ve0)) kq).mpr hc109_363)).1) (by decide) (by decide) k) ?_
              refine own_preJ (B := T361.setTop (mkF m 118 #[.val (.ref a1), .val (.ref a2), .val (.double d3), .second, .val (.int (0 : Int32)), .val (.double (FP.l2d ((((0 : Int64) + ve2) + ve1) + ve0))), .second] [])) (fun t k => XS.iinc Xh362.here hx rfl (hb hby d4_115) rfl (l' := #[.val (.ref a1), .val (.ref a2), .val (.double d3), .second, .val (.int (0 : Int32)), .val (.double (FP.l2d ((((0 : Int64) + ve2) + ve1) + ve0))), .second]) rfl k) ?_
              refine own_preJ (B := T361.setTop (mkF m 68 #[.val (.ref a1), .val (.ref a2), .val (.double d3), .second, .val (.int (0 : Int32)), .val (.double (FP.l2d ((((0 : Int64) + ve2) + ve1) + ve0))), .second] [])) (fun t k => XS.goto Xh362.here hx rfl (pc0 := 118) (pc' := 68) rfl (hb hby d4_118) (by decide) (by decide) k) ?_
              refine own_preJ (B := T361.setTop (mkF m 70 #[.val (.ref a1), .val (.ref a2), .val (.double d3), .second, .val (.int (0 : Int32)), .val (.double (FP.l2d ((((0 : Int64) + ve2) + ve1) + ve0))), .second] [(.int (0 : Int32))])) (fun t k => XS.iload Xh362.here hx rfl (hb hby d4_68) rfl k) ?_
              refine own_preJ (B := T361.setTop (mkF m 121 #[.val (.ref a1), .val (.ref a2), .val (.double d3), .second, .val (.int (0 : Int32)), .val (.double (FP.l2d ((((0 : Int64) + ve2) + ve1) + ve0))), .second] [])) (fun t k => XS.ifYes Xh362.here hx rfl (pc0 := 70) (pc' := 121) rfl (hb hby d4_70) rfl ((if0 _ _).trans (flt (by decide : ¬ ((0 : Int32) < (0 : Int32)))).2.2.2) (by decide) (by decide) k) ?_
              rw [if_pos hc65_319, if_pos hc109_333, if_pos hc109_348, if_pos hc109_363] at hz311
              subst hz311
              rw [if_pos hc65_319, if_pos hc109_333, if_pos hc109_348, if_pos hc109_363] at hz314
              subst hz314
              rw [if_pos hc65_319, if_pos hc109_333, if_pos hc109_348, if_pos hc109_363] at hz315
              subst hz315
              rw [if_pos hc65_319, if_pos hc109_333, if_pos hc109_348, if_pos hc109_363] at hz316
              subst hz316
              have K364 : Keep h0 h361 [a1, w_suffix_a1] := (Keep.wr K359 W361 msx)
              have c365 := (Exa.wr W361 (Exa.wr W346 (Exa.wr W331 (Exa.wr W309 j28_0))))
              have c366 := (Fld.other W361 (Fld.other W346 (Fld.other W331 (Fld.other W309 j28_1 (Or.inl nesx0)) (Or.inl nesx0)) (Or.inl nesx0)) (Or.inl nesx0))
              have c367 := (Fld.other W361 (Fld.other W346 (Fld.other W331 (Fld.other W309 j28_2 (Or.inl nesx0)) (Or.inl nesx0)) (Or.inl nesx0)) (Or.inl nesx0))
              have c368 := (Fld.other W361 (Fld.other W346 (Fld.other W331 (Fld.other W309 j28_3 (Or.inl nesx0)) (Or.inl nesx0)) (Or.inl nesx0)) (Or.inl nesx0))
              have c369 := (Fld.other W361 (Fld.other W346 (Fld.other W331 (Fld.other W309 j28_4 (Or.inl nesx0)) (Or.inl nesx0)) (Or.inl nesx0)) (Or.inl nesx0))
              have c370 := (Fld.other W361 c352 (Or.inl nesx0))
              have c371 := (Fld.other W361 (Fld.other W346 (Fld.other W331 (Fld.other W309 j28_6 (Or.inl nesx0)) (Or.inl nesx0)) (Or.inl nesx0)) (Or.inl nesx0))
              have c372 := (Fld.other W361 (Fld.other W346 (Fld.other W331 (Fld.other W309 j28_7 (Or.inl nesx0)) (Or.inl nesx0)) (Or.inl nesx0)) (Or.inl nesx0))
              have c373 := (Fld.other W361 c349 (Or.inl nesx0))
              have c374 := (Arv.other c356 W361 nesx1)
              have c375 := (Arv.other c354 W361 nesx2)
              exact ⟨_, ⟨_, _, _, (.val (.double (FP.l2d ((((0 : Int64) + ve2) + ve1) + ve0)))), .second, rfl, own_more Xh362 (by decide) (by decide), e361, Nh362, K364, c365, c366, c367, c368, c369, c370, c371, c372, c373, c374, c375, V361⟩, fun t k => k⟩
            · refine own_preJ (B := T361.setTop (mkF m 112 #[.val (.ref a1), .val (.ref a2), .val (.double d3), .second, .val (.int (1 : Int32)), .val (.double (FP.l2d ((((0 : Int64) + ve2) + ve1) + ve0))), .second] [])) (fun t k => XS.ifNo Xh362.here hx rfl (hb hby d4_109) rfl ((if0 _ _).trans (flt (mt (lw_lt (((((0 : Int64) + ve2) + ve1) + ve0) + ((((0 : Int64) + ve2) + ve1) + ve0)) kq).mp hc109_363)).1) k) ?_
              refine own_preJ (B := T361.setTop (mkF m 121 #[.val (.ref a1), .val (.ref a2), .val (.double d3), .second, .val (.int (1 : Int32)), .val (.double (FP.l2d ((((0 : Int64) + ve2) + ve1) + ve0))), .second] [])) (fun t k => XS.goto Xh362.here hx rfl (pc0 := 112) (pc' := 121) rfl (hb hby d4_112) (by decide) (by decide) k) ?_
              rw [if_pos hc65_319, if_pos hc109_333, if_pos hc109_348, if_neg hc109_363] at hz311
              subst hz311
              rw [if_pos hc65_319, if_pos hc109_333, if_pos hc109_348, if_neg hc109_363] at hz314
              subst hz314
              rw [if_pos hc65_319, if_pos hc109_333, if_pos hc109_348, if_neg hc109_363] at hz315
              subst hz315
              rw [if_pos hc65_319, if_pos hc109_333, if_pos hc109_348, if_neg hc109_363] at hz316
              subst hz316
              have K376 : Keep h0 h361 [a1, w_suffix_a1] := (Keep.wr K359 W361 msx)
              have c377 := (Exa.wr W361 (Exa.wr W346 (Exa.wr W331 (Exa.wr W309 j28_0))))
              have c378 := (Fld.other W361 (Fld.other W346 (Fld.other W331 (Fld.other W309 j28_1 (Or.inl nesx0)) (Or.inl nesx0)) (Or.inl nesx0)) (Or.inl nesx0))
              have c379 := (Fld.other W361 (Fld.other W346 (Fld.other W331 (Fld.other W309 j28_2 (Or.inl nesx0)) (Or.inl nesx0)) (Or.inl nesx0)) (Or.inl nesx0))
              have c380 := (Fld.other W361 (Fld.other W346 (Fld.other W331 (Fld.other W309 j28_3 (Or.inl nesx0)) (Or.inl nesx0)) (Or.inl nesx0)) (Or.inl nesx0))
              have c381 := (Fld.other W361 (Fld.other W346 (Fld.other W331 (Fld.other W309 j28_4 (Or.inl nesx0)) (Or.inl nesx0)) (Or.inl nesx0)) (Or.inl nesx0))
              have c382 := (Fld.other W361 c352 (Or.inl nesx0))
              have c383 := (Fld.other W361 (Fld.other W346 (Fld.other W331 (Fld.other W309 j28_6 (Or.inl nesx0)) (Or.inl nesx0)) (Or.inl nesx0)) (Or.inl nesx0))
              have c384 := (Fld.other W361 (Fld.other W346 (Fld.other W331 (Fld.other W309 j28_7 (Or.inl nesx0)) (Or.inl nesx0)) (Or.inl nesx0)) (Or.inl nesx0))
              have c385 := (Fld.other W361 c349 (Or.inl nesx0))
              have c386 := (Arv.other c356 W361 nesx1)
              have c387 := (Arv.other c354 W361 nesx2)
              exact ⟨_, ⟨_, _, _, (.val (.double (FP.l2d ((((0 : Int64) + ve2) + ve1) + ve0)))), .second, rfl, own_more Xh362 (by decide) (by decide), e361, Nh362, K376, c377, c378, c379, c380, c381, c382, c383, c384, c385, c386, c387, V361⟩, fun t k => k⟩
          · refine own_preJ (B := T346.setTop (mkF m 112 #[.val (.ref a1), .val (.ref a2), .val (.double d3), .second, .val (.int (2 : Int32)), .val (.double (FP.l2d (((0 : Int64) + ve2) + ve1))), .second] [])) (fun t k => XS.ifNo Xh347.here hx rfl (hb hby d4_109) rfl ((if0 _ _).trans (flt (mt (lw_lt ((((0 : Int64) + ve2) + ve1) + (((0 : Int64) + ve2) + ve1)) kq).mp hc109_348)).1) k) ?_
            refine own_preJ (B := T346.setTop (mkF m 121 #[.val (.ref a1), .val (.ref a2), .val (.double d3), .second, .val (.int (2 : Int32)), .val (.double (FP.l2d (((0 : Int64) + ve2) + ve1))), .second] [])) (fun t k => XS.goto Xh347.here hx rfl (pc0 := 112) (pc' := 121) rfl (hb hby d4_112) (by decide) (by decide) k) ?_
            rw [if_pos hc65_319, if_pos hc109_333, if_neg hc109_348] at hz311
            subst hz311
            rw [if_pos hc65_319, if_pos hc109_333, if_neg hc109_348] at hz314
            subst hz314
            rw [if_pos hc65_319, if_pos hc109_333, if_neg hc109_348] at hz315
            subst hz315
            rw [if_pos hc65_319, if_pos hc109_333, if_neg hc109_348] at hz316
            subst hz316
            have K388 : Keep h0 h346 [a1, w_suffix_a1] := (Keep.wr K344 W346 msx)
            have c389 := (Exa.wr W346 (Exa.wr W331 (Exa.wr W309 j28_0)))
            have c390 := (Fld.other W346 (Fld.other W331 (Fld.other W309 j28_1 (Or.inl nesx0)) (Or.inl nesx0)) (Or.inl nesx0))
            have c391 := (Fld.other W346 (Fld.other W331 (Fld.other W309 j28_2 (Or.inl nesx0)) (Or.inl nesx0)) (Or.inl nesx0))
            have c392 := (Fld.other W346 (Fld.other W331 (Fld.other W309 j28_3 (Or.inl nesx0)) (Or.inl nesx0)) (Or.inl nesx0))
            have c393 := (Fld.other W346 (Fld.other W331 (Fld.other W309 j28_4 (Or.inl nesx0)) (Or.inl nesx0)) (Or.inl nesx0))
            have c394 := (Fld.other W346 c337 (Or.inl nesx0))
            have c395 := (Fld.other W346 (Fld.other W331 (Fld.other W309 j28_6 (Or.inl nesx0)) (Or.inl nesx0)) (Or.inl nesx0))
            have c396 := (Fld.other W346 (Fld.other W331 (Fld.other W309 j28_7 (Or.inl nesx0)) (Or.inl nesx0)) (Or.inl nesx0))
            have c397 := (Fld.other W346 c334 (Or.inl nesx0))
            have c398 := (Arv.other c341 W346 nesx1)
            have c399 := (Arv.other c339 W346 nesx2)
            exact ⟨_, ⟨_, _, _, (.val (.double (FP.l2d (((0 : Int64) + ve2) + ve1)))), .second, rfl, own_more Xh347 (by decide) (by decide), e346, Nh347, K388, c389, c390, c391, c392, c393, c394, c395, c396, c397, c398, c399, V346⟩, fun t k => k⟩
        · refine own_preJ (B := T331.setTop (mkF m 112 #[.val (.ref a1), .val (.ref a2), .val (.double d3), .second, .val (.int (3 : Int32)), .val (.double (FP.l2d ((0 : Int64) + ve2))), .second] [])) (fun t k => XS.ifNo Xh332.here hx rfl (hb hby d4_109) rfl ((if0 _ _).trans (flt (mt (lw_lt (((0 : Int64) + ve2) + ((0 : Int64) + ve2)) kq).mp hc109_333)).1) k) ?_
          refine own_preJ (B := T331.setTop (mkF m 121 #[.val (.ref a1), .val (.ref a2), .val (.double d3), .second, .val (.int (3 : Int32)), .val (.double (FP.l2d ((0 : Int64) + ve2))), .second] [])) (fun t k => XS.goto Xh332.here hx rfl (pc0 := 112) (pc' := 121) rfl (hb hby d4_112) (by decide) (by decide) k) ?_
          rw [if_pos hc65_319, if_neg hc109_333] at hz311
          subst hz311
          rw [if_pos hc65_319, if_neg hc109_333] at hz314
          subst hz314
          rw [if_pos hc65_319, if_neg hc109_333] at hz315
          subst hz315
          rw [if_pos hc65_319, if_neg hc109_333] at hz316
          subst hz316
          have K400 : Keep h0 h331 [a1, w_suffix_a1] := (Keep.wr K318 W331 msx)
          have c401 := (Exa.wr W331 (Exa.wr W309 j28_0))
          have c402 := (Fld.other W331 (Fld.other W309 j28_1 (Or.inl nesx0)) (Or.inl nesx0))
          have c403 := (Fld.other W331 (Fld.other W309 j28_2 (Or.inl nesx0)) (Or.inl nesx0))
          have c404 := (Fld.other W331 (Fld.other W309 j28_3 (Or.inl nesx0)) (Or.inl nesx0))
          have c405 := (Fld.other W331 (Fld.other W309 j28_4 (Or.inl nesx0)) (Or.inl nesx0))
          have c406 := (Fld.other W331 c323 (Or.inl nesx0))
          have c407 := (Fld.other W331 (Fld.other W309 j28_6 (Or.inl nesx0)) (Or.inl nesx0))
          have c408 := (Fld.other W331 (Fld.other W309 j28_7 (Or.inl nesx0)) (Or.inl nesx0))
          have c409 := (Fld.other W331 c320 (Or.inl nesx0))
          have c410 := (Arv.other c327 W331 nesx1)
          have c411 := (Arv.other c325 W331 nesx2)
          exact ⟨_, ⟨_, _, _, (.val (.double (FP.l2d ((0 : Int64) + ve2)))), .second, rfl, own_more Xh332 (by decide) (by decide), e331, Nh332, K400, c401, c402, c403, c404, c405, c406, c407, c408, c409, c410, c411, V331⟩, fun t k => k⟩
      · refine own_preJ (B := T309.setTop (mkF m 121 #[.val (.ref a1), .val (.ref a2), .val (.double d3), .second, .val (.int (3 : Int32)), .unset, .unset] [])) (fun t k => XS.ifYes Xh310.here hx rfl (pc0 := 65) (pc' := 121) rfl (hb hby d4_65) rfl ((if0 _ _).trans (flt (mt (lw_gt kq (0 : Int64)).mp hc65_319)).2.2.2) (by decide) (by decide) k) ?_
        rw [if_neg hc65_319] at hz311
        subst hz311
        rw [if_neg hc65_319] at hz314
        subst hz314
        rw [if_neg hc65_319] at hz315
        subst hz315
        rw [if_neg hc65_319] at hz316
        subst hz316
        have c412 := (Exa.wr W309 j28_0)
        have c413 := (Fld.other W309 j28_1 (Or.inl nesx0))
        have c414 := (Fld.other W309 j28_2 (Or.inl nesx0))
        have c415 := (Fld.other W309 j28_3 (Or.inl nesx0))
        have c416 := (Fld.other W309 j28_4 (Or.inl nesx0))
        have c417 := (Fld.other W309 j28_5 (Or.inl nesx0))
        have c418 := (Fld.other W309 j28_6 (Or.inl nesx0))
        have c419 := (Fld.other W309 j28_7 (Or.inl nesx0))
        have c420 := (Fld.other W309 Fsx (Or.inl nesx0))
        have c421 := (Arv.other j28_8 W309 nesx1)
        have c422 := (Arv.other j28_9 W309 nesx2)
        exact ⟨_, ⟨_, _, _, .unset, .unset, rfl, own_more Xh310 (by decide) (by decide), e309, Nh310, K318, c412, c413, c414, c415, c416, c417, c418, c419, c420, c421, c422, V309⟩, fun t k => k⟩
    refine own_pre (B := T317.setTop (mkF m 121 #[.val (.ref a1), .val (.ref a2), .val (.double d3), .second, .val (.int z311), sl312, sl313] [])) (fun t k => st317 t k) ?_
    refine own_pre (B := T317.setTop (mkF m 122 #[.val (.ref a1), .val (.ref a2), .val (.double d3), .second, .val (.int z311), sl312, sl313] [(.ref a1)])) (fun t k => XS.aloadN X317.here hx rfl (hb hby d4_121) rfl rfl k) ?_
    refine own_pre (B := T317.setTop (mkF m 124 #[.val (.ref a1), .val (.ref a2), .val (.double d3), .second, .val (.int z311), sl312, sl313] [(.int z311), (.ref a1)])) (fun t k => XS.iload X317.here hx rfl (hb hby d4_122) rfl k) ?_
    refine own_pre (B := T317.setTop (mkF m 125 #[.val (.ref a1), .val (.ref a2), .val (.double d3), .second, .val (.int z311), sl312, sl313] [(.int (1 : Int32)), (.int z311), (.ref a1)])) (fun t k => XS.iconst X317.here hx rfl (hb hby d4_124) k) ?_
    refine own_pre (B := T317.setTop (mkF m 126 #[.val (.ref a1), .val (.ref a2), .val (.double d3), .second, .val (.int z311), sl312, sl313] [(.int (z311 - (1 : Int32))), (.ref a1)])) (fun t k => XS.isub X317.here hx rfl (hb hby d4_125) rfl k) ?_
    obtain ⟨T423, h423, X423, e423, W423, st423⟩ := putF X317 hx hZ hown (host := "") (Or.inl (hw _ (ow 38 rfl))) Via.refl e317 j317_6 j317_0 (Or.inl (hw _ (ow 39 rfl))) (hw _ (ow 9 rfl)) (ty := .int) (by decide) rfl rfl (g := (mkF m 126 #[.val (.ref a1), .val (.ref a2), .val (.double d3), .second, .val (.int z311), sl312, sl313] [(.int (z311 - (1 : Int32))), (.ref a1)])) rfl rfl (hb hby d4_126)
    have Fw423 := Fld.same W423 j317_6
    have N423 := Fr.snoc X423 N317 g_a1
    obtain ⟨Lh424, Xh424, Nh424⟩ := own_hide X423 N423
    refine own_pre (B := T423.setTop (mkF m 129 #[.val (.ref a1), .val (.ref a2), .val (.double d3), .second, .val (.int z311), sl312, sl313] [])) (fun t k => st423 t k) ?_
    refine own_pre (B := T423.setTop (mkF m 130 #[.val (.ref a1), .val (.ref a2), .val (.double d3), .second, .val (.int z311), sl312, sl313] [(.ref a1)])) (fun t k => XS.aloadN Xh424.here hx rfl (hb hby d4_129) rfl rfl k) ?_
    refine own_pre (B := T423.setTop (mkF m 131 #[.val (.ref a1), .val (.ref a2), .val (.double d3), .second, .val (.int z311), sl312, sl313] [(.ref a1), (.ref a1)])) (fun t k => XS.aloadN Xh424.here hx rfl (hb hby d4_130) rfl rfl k) ?_
    obtain ⟨T425, X425, e425, st425⟩ := getF Xh424 hx hZ hown (host := "") (Or.inl (hw _ (ow 38 rfl))) Via.refl e423 Fw423 (g := (mkF m 131 #[.val (.ref a1), .val (.ref a2), .val (.double d3), .second, .val (.int z311), sl312, sl313] [(.ref a1), (.ref a1)])) rfl rfl (hb hby d4_131)
    refine own_pre (B := T425.setTop (mkF m 134 #[.val (.ref a1), .val (.ref a2), .val (.double d3), .second, .val (.int z311), sl312, sl313] [(.int (z311 - (1 : Int32))), (.ref a1)])) (fun t k => st425 t k) ?_
    have c426 := (Exa.wr W423 j317_0)
    have c427 := (Fld.other W423 j317_7 (Or.inr (slot_ne (Or.inl (hw _ (ow 41 rfl))) (Or.inl (hw _ (ow 39 rfl))) (by decide) (t := .int) (t' := .int) (by decide) (by decide))))
    have K428 : Keep h0 h423 [a1, w_suffix_a1] := (Keep.wr K317j W423 (Or.inl (List.mem_of_getElem? (i := 0) rfl)))
    obtain ⟨T429, h429, X429, e429, W429, st429⟩ := putF X425 hx hZ hown (host := "") (Or.inl (hw _ (ow 40 rfl))) Via.refl e425 c427 c426 (Or.inl (hw _ (ow 41 rfl))) (hw _ (ow 9 rfl)) (ty := .int) (by decide) rfl rfl (g := (mkF m 134 #[.val (.ref a1), .val (.ref a2), .val (.double d3), .second, .val (.int z311), sl312, sl313] [(.int (z311 - (1 : Int32))), (.ref a1)])) rfl rfl (hb hby d4_134)
    have Fw429 := Fld.same W429 c427
    have N429 := Fr.snoc X429 Nh424 g_a1
    obtain ⟨Lh430, Xh430, Nh430⟩ := own_hide X429 N429
    refine own_pre (B := T429.setTop (mkF m 137 #[.val (.ref a1), .val (.ref a2), .val (.double d3), .second, .val (.int z311), sl312, sl313] [])) (fun t k => st429 t k) ?_
    refine own_pre (B := T429.setTop (mkF m 139 #[.val (.ref a1), .val (.ref a2), .val (.double d3), .second, .val (.int z311), sl312, sl313] [(.int z311)])) (fun t k => XS.iload Xh430.here hx rfl (hb hby d4_137) rfl k) ?_
    have K431 : Keep h0 h429 [a1, w_suffix_a1] := (Keep.wr K428 W429 (Or.inl (List.mem_of_getElem? (i := 0) rfl)))
    have c432 := (Exa.wr W429 c426)
    have c433 := (Arv.other (Arv.other j317_11 W423 (Ne.symm nesx0)) W429 (Ne.symm nesx0))
    have c434 := (Fld.other W429 (Fld.other W423 j317_1 (Or.inr (slot_ne (Or.inl (hw _ (ow 18 rfl))) (Or.inl (hw _ (ow 39 rfl))) (by decide) (t := (.array .int)) (t' := .int) (by decide) (by decide)))) (Or.inr (slot_ne (Or.inl (hw _ (ow 18 rfl))) (Or.inl (hw _ (ow 41 rfl))) (by decide) (t := (.array .int)) (t' := .int) (by decide) (by decide))))
    have c435 := (Fld.other W429 (Fld.other W423 j317_2 (Or.inr (slot_ne (Or.inl (hw _ (ow 33 rfl))) (Or.inl (hw _ (ow 39 rfl))) (by decide) (t := .double) (t' := .int) (by decide) (by decide)))) (Or.inr (slot_ne (Or.inl (hw _ (ow 33 rfl))) (Or.inl (hw _ (ow 41 rfl))) (by decide) (t := .double) (t' := .int) (by decide) (by decide))))
    have c436 := (Fld.other W429 (Fld.other W423 j317_3 (Or.inr (slot_ne (Or.inl (hw _ (ow 35 rfl))) (Or.inl (hw _ (ow 39 rfl))) (by decide) (t := .int) (t' := .int) (by decide) (by decide)))) (Or.inr (slot_ne (Or.inl (hw _ (ow 35 rfl))) (Or.inl (hw _ (ow 41 rfl))) (by decide) (t := .int) (t' := .int) (by decide) (by decide))))
    have c437 := (Fld.other W429 (Fld.other W423 j317_4 (Or.inr (slot_ne (Or.inl (hw _ (ow 37 rfl))) (Or.inl (hw _ (ow 39 rfl))) (by decide) (t := .int) (t' := .int) (by decide) (by decide)))) (Or.inr (slot_ne (Or.inl (hw _ (ow 37 rfl))) (Or.inl (hw _ (ow 41 rfl))) (by decide) (t := .int) (t' := .int) (by decide) (by decide))))
    have c438 := (Fld.other W429 (Fld.other W423 j317_8 (Or.inr (slot_ne (Or.inl (hw _ (ow 20 rfl))) (Or.inl (hw _ (ow 39 rfl))) (by decide) (t := (.array .double)) (t' := .int) (by decide) (by decide)))) (Or.inr (slot_ne (Or.inl (hw _ (ow 20 rfl))) (Or.inl (hw _ (ow 41 rfl))) (by decide) (t := (.array .double)) (t' := .int) (by decide) (by decide))))
    have c439 := (Fld.other W429 (Fld.other W423 j317_5 (Or.inr (slot_ne (Or.inr (hw _ (ow 26 rfl))) (Or.inl (hw _ (ow 39 rfl))) (by decide) (t := (.array .double)) (t' := .int) (by decide) (by decide)))) (Or.inr (slot_ne (Or.inr (hw _ (ow 26 rfl))) (Or.inl (hw _ (ow 41 rfl))) (by decide) (t := (.array .double)) (t' := .int) (by decide) (by decide))))
    have c440 := (Fld.other W429 Fw423 (Or.inr (slot_ne (Or.inl (hw _ (ow 39 rfl))) (Or.inl (hw _ (ow 41 rfl))) (by decide) (t := .int) (t' := .int) (by decide) (by decide))))
    obtain ⟨fsr441, hrr441, hrunr441, hendedr441, hWr441, hsamer441⟩ := Xh430.leave (v := some (.int z311)) (fun h => by rw [Bd.returns] at h; cases h)
    refine ⟨_, _, (retI Xh430 hx Bd.returns (hb hby d4_139) hrr441), hrunr441, hendedr441, _, _, rfl, ?_, ⟨_, rfl⟩, hWr441, hsamer441.mono (by decide) (by decide)⟩
    show Q4 Z a1 a2 d3 w_suffix_a1 w_weights_a1 k_w_suffix_a1 NN u0 u1 u2 u3 u4 k_w_weights_a1 w0 w1 w2 w3 w4 w5 w6 w7 k_a2 (3 : Int32) r0 r1 r2 r3 kq ve0 ve1 ve2 ve3 w_firstLast_a1 w_last_a1 u_bag_a1 u_least_a1 u_heavyCount_a1 u_lastLevel_a1 h0 n0 _ T429.heap _
    rw [e429]
    exact ⟨sx, kx, nx, z314, z315, z316, (FP.l2d (0 : Int64)), x4, (z311 - (1 : Int32)), (z311 - (1 : Int32)), (by rw [hz311, own_f4_3]), Nh430, K431, gsx, osx, hnx, c432, c434, c435, c436, c437, c438, c439, c440, Fw429, c433⟩
  · have hR_ := hR0
    refine own_pre (B := T28.setTop (mkF m 51 #[.val (.ref a1), .val (.ref a2), .val (.double d3), .second, .unset, .unset, .unset] [(.ref a2)])) (fun t k => XS.aloadN X28.here hx rfl (hb hby d4_50) rfl rfl k) ?_
    obtain ⟨cl442, Ar442, -, S442, N442v, -, -⟩ := id j28_9
    refine own_pre (B := T28.setTop (mkF m 52 #[.val (.ref a1), .val (.ref a2), .val (.double d3), .second, .unset, .unset, .unset] [(.int (4 : Int32))])) (fun t k => X28.arraylength hx (by rw [e28]; exact Ar442.1) (State.isArrayOf_alike hZ.alike Ar442.2.1) (g := (mkF m 51 #[.val (.ref a1), .val (.ref a2), .val (.double d3), .second, .unset, .unset, .unset] [(.ref a2)])) rfl rfl (hb hby d4_51) t (by rw [len_of S442 N442v]; exact k)) ?_
    refine own_pre (B := T28.setTop (mkF m 54 #[.val (.ref a1), .val (.ref a2), .val (.double d3), .second, .val (.int (4 : Int32)), .unset, .unset] [])) (fun t k => XS.istore X28.here hx rfl (hb hby d4_52) rfl (l' := #[.val (.ref a1), .val (.ref a2), .val (.double d3), .second, .val (.int (4 : Int32)), .unset, .unset]) rfl k) ?_
    refine own_pre (B := T28.setTop (mkF m 55 #[.val (.ref a1), .val (.ref a2), .val (.double d3), .second, .val (.int (4 : Int32)), .unset, .unset] [(.ref a1)])) (fun t k => XS.aloadN X28.here hx rfl (hb hby d4_54) rfl rfl k) ?_
    obtain ⟨T443, X443, e443, st443⟩ := getF X28 hx hZ hown (host := "") (Or.inl (hw _ (ow 19 rfl))) Via.refl e28 Fsx (g := (mkF m 55 #[.val (.ref a1), .val (.ref a2), .val (.double d3), .second, .val (.int (4 : Int32)), .unset, .unset] [(.ref a1)])) rfl rfl (hb hby d4_55)
    refine own_pre (B := T443.setTop (mkF m 58 #[.val (.ref a1), .val (.ref a2), .val (.double d3), .second, .val (.int (4 : Int32)), .unset, .unset] [(.ref sx)])) (fun t k => st443 t k) ?_
    refine own_pre (B := T443.setTop (mkF m 60 #[.val (.ref a1), .val (.ref a2), .val (.double d3), .second, .val (.int (4 : Int32)), .unset, .unset] [(.int (4 : Int32)), (.ref sx)])) (fun t k => XS.iload X443.here hx rfl (hb hby d4_58) rfl k) ?_
    refine own_pre (B := T443.setTop (mkF m 61 #[.val (.ref a1), .val (.ref a2), .val (.double d3), .second, .val (.int (4 : Int32)), .unset, .unset] [(.double (FP.l2d (0 : Int64))), (.int (4 : Int32)), (.ref sx)])) (fun t k => XS.dconst0 X443.here hx rfl (hb hby d4_60) own_dc0 k) ?_
    obtain ⟨cl444, Ar444, q444, S444, N444v, H444v, G444v⟩ := Vsx
    have Vsx : Arv Z h28 sx kx .double nx [(.double x0), (.double x1), (.double x2), (.double x3), (.double x4)] (.double (FP.l2d (0 : Int64))) := ⟨cl444, Ar444, q444, S444, N444v, H444v, G444v⟩
    have hin444 : ¬ ((4 : Int32) < 0 ∨ cl444.slots.size ≤ ((4 : Int32)).toNatClampNeg) := inb_of S444 ⟨by decide, own_ltle hlt (by decide)⟩
    obtain ⟨T445, h445, X445, e445, W445, st445⟩ := stD X443 hx hZ e443 Ar444 (j := (4 : Int32)) hin444 (g := (mkF m 61 #[.val (.ref a1), .val (.ref a2), .val (.double d3), .second, .val (.int (4 : Int32)), .unset, .unset] [(.double (FP.l2d (0 : Int64))), (.int (4 : Int32)), (.ref sx)])) rfl rfl (hb hby d4_61)
    have V445 : Arv Z h445 sx kx .double nx [(.double x0), (.double x1), (.double x2), (.double x3), (.double (FP.l2d (0 : Int64)))] (.double (FP.l2d (0 : Int64))) := Arv.set Ar444 q444 S444 N444v H444v G444v rfl W445 4 rfl (Nat.le_of_ble_eq_true rfl)
    have N445 := Fr.snoc X445 N28 gsx
    obtain ⟨Lh446, Xh446, Nh446⟩ := own_hide X445 N445
    refine own_pre (B := T445.setTop (mkF m 62 #[.val (.ref a1), .val (.ref a2), .val (.double d3), .second, .val (.int (4 : Int32)), .unset, .unset] [])) (fun t k => st445 t k) ?_
    refine own_pre (B := T445.setTop (mkF m 63 #[.val (.ref a1), .val (.ref a2), .val (.double d3), .second, .val (.int (4 : Int32)), .unset, .unset] [(.double d3)])) (fun t k => XS.dloadN Xh446.here hx rfl (hb hby d4_62) rfl k) ?_
    refine own_pre (B := T445.setTop (mkF m 64 #[.val (.ref a1), .val (.ref a2), .val (.double d3), .second, .val (.int (4 : Int32)), .unset, .unset] [(.double (FP.l2d (0 : Int64))), (.double d3)])) (fun t k => XS.dconst0 Xh446.here hx rfl (hb hby d4_63) own_dc0 k) ?_
    refine own_pre (B := T445.setTop (mkF m 65 #[.val (.ref a1), .val (.ref a2), .val (.double d3), .second, .val (.int (4 : Int32)), .unset, .unset] [(.int (lcmpW kq (0 : Int64)))])) (fun t k => XS.dcmpS Xh446.here hx rfl (hb hby d4_64) rfl (own_cmp0d hd hk _) k) ?_
    obtain ⟨z447, hz447⟩ : ∃ z : Int32, z = (if (0 : Int64) < kq then (if (((0 : Int64) + ve3) + ((0 : Int64) + ve3)) < kq then (if ((((0 : Int64) + ve3) + ve2) + (((0 : Int64) + ve3) + ve2)) < kq then (if (((((0 : Int64) + ve3) + ve2) + ve1) + ((((0 : Int64) + ve3) + ve2) + ve1)) < kq then (if ((((((0 : Int64) + ve3) + ve2) + ve1) + ve0) + (((((0 : Int64) + ve3) + ve2) + ve1) + ve0)) < kq then (0 : Int32) else (1 : Int32)) else (2 : Int32)) else (3 : Int32)) else (4 : Int32)) else (4 : Int32)) := ⟨_, rfl⟩
    obtain ⟨z450, hz450⟩ : ∃ z : UInt64, z = (if (0 : Int64) < kq then (if (((0 : Int64) + ve3) + ((0 : Int64) + ve3)) < kq then (if ((((0 : Int64) + ve3) + ve2) + (((0 : Int64) + ve3) + ve2)) < kq then (if (((((0 : Int64) + ve3) + ve2) + ve1) + ((((0 : Int64) + ve3) + ve2) + ve1)) < kq then (if ((((((0 : Int64) + ve3) + ve2) + ve1) + ve0) + (((((0 : Int64) + ve3) + ve2) + ve1) + ve0)) < kq then (FP.l2d (((((0 : Int64) + ve3) + ve2) + ve1) + ve0)) else (FP.l2d (((((0 : Int64) + ve3) + ve2) + ve1) + ve0))) else x0) else x0) else x0) else x0) := ⟨_, rfl⟩
    obtain ⟨z451, hz451⟩ : ∃ z : UInt64, z = (if (0 : Int64) < kq then (if (((0 : Int64) + ve3) + ((0 : Int64) + ve3)) < kq then (if ((((0 : Int64) + ve3) + ve2) + (((0 : Int64) + ve3) + ve2)) < kq then (if (((((0 : Int64) + ve3) + ve2) + ve1) + ((((0 : Int64) + ve3) + ve2) + ve1)) < kq then (if ((((((0 : Int64) + ve3) + ve2) + ve1) + ve0) + (((((0 : Int64) + ve3) + ve2) + ve1) + ve0)) < kq then (FP.l2d ((((0 : Int64) + ve3) + ve2) + ve1)) else (FP.l2d ((((0 : Int64) + ve3) + ve2) + ve1))) else (FP.l2d ((((0 : Int64) + ve3) + ve2) + ve1))) else x1) else x1) else x1) := ⟨_, rfl⟩
    obtain ⟨z452, hz452⟩ : ∃ z : UInt64, z = (if (0 : Int64) < kq then (if (((0 : Int64) + ve3) + ((0 : Int64) + ve3)) < kq then (if ((((0 : Int64) + ve3) + ve2) + (((0 : Int64) + ve3) + ve2)) < kq then (if (((((0 : Int64) + ve3) + ve2) + ve1) + ((((0 : Int64) + ve3) + ve2) + ve1)) < kq then (if ((((((0 : Int64) + ve3) + ve2) + ve1) + ve0) + (((((0 : Int64) + ve3) + ve2) + ve1) + ve0)) < kq then (FP.l2d (((0 : Int64) + ve3) + ve2)) else (FP.l2d (((0 : Int64) + ve3) + ve2))) else (FP.l2d (((0 : Int64) + ve3) + ve2))) else (FP.l2d (((0 : Int64) + ve3) + ve2))) else x2) else x2) := ⟨_, rfl⟩
    obtain ⟨z453, hz453⟩ : ∃ z : UInt64, z = (if (0 : Int64) < kq then (if (((0 : Int64) + ve3) + ((0 : Int64) + ve3)) < kq then (if ((((0 : Int64) + ve3) + ve2) + (((0 : Int64) + ve3) + ve2)) < kq then (if (((((0 : Int64) + ve3) + ve2) + ve1) + ((((0 : Int64) + ve3) + ve2) + ve1)) < kq then (if ((((((0 : Int64) + ve3) + ve2) + ve1) + ve0) + (((((0 : Int64) + ve3) + ve2) + ve1) + ve0)) < kq then (FP.l2d ((0 : Int64) + ve3)) else (FP.l2d ((0 : Int64) + ve3))) else (FP.l2d ((0 : Int64) + ve3))) else (FP.l2d ((0 : Int64) + ve3))) else (FP.l2d ((0 : Int64) + ve3))) else x3) := ⟨_, rfl⟩
    have K455 : Keep h0 h445 [a1, w_suffix_a1] := (Keep.wr K28j W445 msx)
    obtain ⟨_, ⟨T454, h454, L454, sl448, sl449, rfl, X454, e454, N454, K454j, j454_0, j454_1, j454_2, j454_3, j454_4, j454_5, j454_6, j454_7, j454_8, j454_9, j454_10, j454_11⟩, st454⟩ : own_J p.tables e below (fun B => ∃ (T' : State) (h' : Heap) (L' : List Loc) (sl448 sl449 : Slot), B = T'.setTop (mkF m 121 #[.val (.ref a1), .val (.ref a2), .val (.double d3), .second, .val (.int z447), sl448, sl449] []) ∧ Stand p l e ({ frames := 1, cells := 1, slots := 8, locals := 14 } : Room) s m #[(.ref a1), (.ref a2), (.double d3)] below meth c T' L' 1 8 ∧ T'.heap = h' ∧ Fr n0 L' ∧ Keep h0 h' [a1, w_suffix_a1] ∧ Exa Z h' a1 "com/example/nearjoin/nearjoin/join/PrefixCut" ∧ Fld Z h' a1 "com/example/nearjoin/nearjoin/join/PrefixCut" "bag" "[I" (.ref a2) ∧ Fld Z h' a1 "com/example/nearjoin/nearjoin/join/PrefixCut" "least" "D" (.double d3) ∧ Fld Z h' a1 "com/example/nearjoin/nearjoin/join/PrefixCut" "heavyCount" "I" (.int (-1 : Int32)) ∧ Fld Z h' a1 "com/example/nearjoin/nearjoin/join/PrefixCut" "lastLevel" "I" (.int (1 : Int32)) ∧ Fld Z h' a1 "com/example/nearjoin/nearjoin/join/PrefixCut" "weights" "[D" (.ref w_weights_a1) ∧ Fld Z h' a1 "com/example/nearjoin/nearjoin/join/PrefixCut" "firstLast" "I" (.int w_firstLast_a1) ∧ Fld Z h' a1 "com/example/nearjoin/nearjoin/join/PrefixCut" "last" "I" (.int w_last_a1) ∧ Fld Z h' a1 "com/example/nearjoin/nearjoin/join/PrefixCut" "suffix" "[D" (.ref sx) ∧ Arv Z h' w_weights_a1 k_w_weights_a1 .double (8 : Int32) [(.double (FP.l2d w0)), (.double (FP.l2d w1)), (.double (FP.l2d w2)), (.double (FP.l2d w3)), (.double (FP.l2d w4)), (.double (FP.l2d w5)), (.double (FP.l2d w6)), (.double (FP.l2d w7))] (.double (FP.l2d (0 : Int64))) ∧ Arv Z h' a2 k_a2 .int (4 : Int32) [(.int r0), (.int r1), (.int r2), (.int r3)] (.int (0 : Int32)) ∧ Arv Z h' sx kx .double nx [(.double z450), (.double z451), (.double z452), (.double z453), (.double (FP.l2d (0 : Int64)))] (.double (FP.l2d (0 : Int64)))) (T445.setTop (mkF m 65 #[.val (.ref a1), .val (.ref a2), .val (.double d3), .second, .val (.int (4 : Int32)), .unset, .unset] [(.int (lcmpW kq (0 : Int64)))])) := by
      by_cases hc65_456 : (0 : Int64) < kq
      · refine own_preJ (B := T445.setTop (mkF m 68 #[.val (.ref a1), .val (.ref a2), .val (.double d3), .second, .val (.int (4 : Int32)), .unset, .unset] [])) (fun t k => XS.ifNo Xh446.here hx rfl (hb hby d4_65) rfl ((if0 _ _).trans (tlt ((lw_gt kq (0 : Int64)).mpr hc65_456)).2.2.2) k) ?_
        refine own_preJ (B := T445.setTop (mkF m 70 #[.val (.ref a1), .val (.ref a2), .val (.double d3), .second, .val (.int (4 : Int32)), .unset, .unset] [(.int (4 : Int32))])) (fun t k => XS.iload Xh446.here hx rfl (hb hby d4_68) rfl k) ?_
        refine own_preJ (B := T445.setTop (mkF m 73 #[.val (.ref a1), .val (.ref a2), .val (.double d3), .second, .val (.int (4 : Int32)), .unset, .unset] [])) (fun t k => XS.ifNo Xh446.here hx rfl (hb hby d4_70) rfl ((if0 _ _).trans (tlt (by decide : (0 : Int32) < (4 : Int32))).2.2.2) k) ?_
        refine own_preJ (B := T445.setTop (mkF m 74 #[.val (.ref a1), .val (.ref a2), .val (.double d3), .second, .val (.int (4 : Int32)), .unset, .unset] [(.ref a1)])) (fun t k => XS.aloadN Xh446.here hx rfl (hb hby d4_73) rfl rfl k) ?_
        have c457 := (Fld.other W445 Fsx (Or.inl nesx0))
        obtain ⟨T458, X458, e458, st458⟩ := getF Xh446 hx hZ hown (host := "") (Or.inl (hw _ (ow 19 rfl))) Via.refl e445 c457 (g := (mkF m 74 #[.val (.ref a1), .val (.ref a2), .val (.double d3), .second, .val (.int (4 : Int32)), .unset, .unset] [(.ref a1)])) rfl rfl (hb hby d4_74)
        refine own_preJ (B := T458.setTop (mkF m 77 #[.val (.ref a1), .val (.ref a2), .val (.double d3), .second, .val (.int (4 : Int32)), .unset, .unset] [(.ref sx)])) (fun t k => st458 t k) ?_
        refine own_preJ (B := T458.setTop (mkF m 79 #[.val (.ref a1), .val (.ref a2), .val (.double d3), .second, .val (.int (4 : Int32)), .unset, .unset] [(.int (4 : Int32)), (.ref sx)])) (fun t k => XS.iload X458.here hx rfl (hb hby d4_77) rfl k) ?_
        obtain ⟨cl459, Ar459, q459, S459, N459v, H459v, G459v⟩ := V445
        have V445 : Arv Z h445 sx kx .double nx [(.double x0), (.double x1), (.double x2), (.double x3), (.double (FP.l2d (0 : Int64)))] (.double (FP.l2d (0 : Int64))) := ⟨cl459, Ar459, q459, S459, N459v, H459v, G459v⟩
        have hin459 : ¬ ((4 : Int32) < 0 ∨ cl459.slots.size ≤ ((4 : Int32)).toNatClampNeg) := inb_of S459 ⟨by decide, own_ltle hlt (by decide)⟩
        have hat459 : cl459.slots[((4 : Int32)).toNatClampNeg]? = some (.double (FP.l2d (0 : Int64))) := H459v.at hin459 rfl
        refine own_preJ (B := T458.setTop (mkF m 80 #[.val (.ref a1), .val (.ref a2), .val (.double d3), .second, .val (.int (4 : Int32)), .unset, .unset] [(.double (FP.l2d (0 : Int64)))])) (fun t k => X458.daload hx (j := (4 : Int32)) (v := (.double (FP.l2d (0 : Int64)))) (by rw [e458]; exact Ar459.1) (State.isArrayOf_alike hZ.alike Ar459.2.1) Ar459.2.2 hin459 hat459 (g := (mkF m 79 #[.val (.ref a1), .val (.ref a2), .val (.double d3), .second, .val (.int (4 : Int32)), .unset, .unset] [(.int (4 : Int32)), (.ref sx)])) rfl rfl (hb hby d4_79) t k) ?_
        refine own_preJ (B := T458.setTop (mkF m 81 #[.val (.ref a1), .val (.ref a2), .val (.double d3), .second, .val (.int (4 : Int32)), .unset, .unset] [(.ref a1), (.double (FP.l2d (0 : Int64)))])) (fun t k => XS.aloadN X458.here hx rfl (hb hby d4_80) rfl rfl k) ?_
        have c460 := (Fld.other W445 j28_5 (Or.inl nesx0))
        obtain ⟨T461, X461, e461, st461⟩ := getF X458 hx hZ hown (host := "") (Or.inl (hw _ (ow 25 rfl))) Via.refl e458 c460 (g := (mkF m 81 #[.val (.ref a1), .val (.ref a2), .val (.double d3), .second, .val (.int (4 : Int32)), .unset, .unset] [(.ref a1), (.double (FP.l2d (0 : Int64)))])) rfl rfl (hb hby d4_81)
        refine own_preJ (B := T461.setTop (mkF m 84 #[.val (.ref a1), .val (.ref a2), .val (.double d3), .second, .val (.int (4 : Int32)), .unset, .unset] [(.ref w_weights_a1), (.double (FP.l2d (0 : Int64)))])) (fun t k => st461 t k) ?_
        refine own_preJ (B := T461.setTop (mkF m 85 #[.val (.ref a1), .val (.ref a2), .val (.double d3), .second, .val (.int (4 : Int32)), .unset, .unset] [(.ref a2), (.ref w_weights_a1), (.double (FP.l2d (0 : Int64)))])) (fun t k => XS.aloadN X461.here hx rfl (hb hby d4_84) rfl rfl k) ?_
        refine own_preJ (B := T461.setTop (mkF m 87 #[.val (.ref a1), .val (.ref a2), .val (.double d3), .second, .val (.int (4 : Int32)), .unset, .unset] [(.int (4 : Int32)), (.ref a2), (.ref w_weights_a1), (.double (FP.l2d (0 : Int64)))])) (fun t k => XS.iload X461.here hx rfl (hb hby d4_85) rfl k) ?_
        refine own_preJ (B := T461.setTop (mkF m 88 #[.val (.ref a1), .val (.ref a2), .val (.double d3), .second, .val (.int (4 : Int32)), .unset, .unset] [(.int (1 : Int32)), (.int (4 : Int32)), (.ref a2), (.ref w_weights_a1), (.double (FP.l2d (0 : Int64)))])) (fun t k => XS.iconst X461.here hx rfl (hb hby d4_87) k) ?_
        refine own_preJ (B := T461.setTop (mkF m 89 #[.val (.ref a1), .val (.ref a2), .val (.double d3), .second, .val (.int (4 : Int32)), .unset, .unset] [(.int (3 : Int32)), (.ref a2), (.ref w_weights_a1), (.double (FP.l2d (0 : Int64)))])) (fun t k => XS.isub X461.here hx rfl (hb hby d4_88) rfl k) ?_
        have c462 := (Arv.other j28_9 W445 nesx2)
        obtain ⟨cl463, Ar463, q463, S463, N463v, H463v, G463v⟩ := c462
        have c462 : Arv Z h445 a2 k_a2 .int (4 : Int32) [(.int r0), (.int r1), (.int r2), (.int r3)] (.int (0 : Int32)) := ⟨cl463, Ar463, q463, S463, N463v, H463v, G463v⟩
        have hin463 : ¬ ((3 : Int32) < 0 ∨ cl463.slots.size ≤ ((3 : Int32)).toNatClampNeg) := inb_of S463 ⟨by decide, by decide⟩
        have hat463 : cl463.slots[((3 : Int32)).toNatClampNeg]? = some (.int r3) := H463v.at hin463 rfl
        refine own_preJ (B := T461.setTop (mkF m 90 #[.val (.ref a1), .val (.ref a2), .val (.double d3), .second, .val (.int (4 : Int32)), .unset, .unset] [(.int r3), (.ref w_weights_a1), (.double (FP.l2d (0 : Int64)))])) (fun t k => X461.iaload hx (j := (3 : Int32)) (v := (.int r3)) (by rw [e461]; exact Ar463.1) (State.isArrayOf_alike hZ.alike Ar463.2.1) Ar463.2.2 hin463 hat463 (g := (mkF m 89 #[.val (.ref a1), .val (.ref a2), .val (.double d3), .second, .val (.int (4 : Int32)), .unset, .unset] [(.int (3 : Int32)), (.ref a2), (.ref w_weights_a1), (.double (FP.l2d (0 : Int64)))])) rfl rfl (hb hby d4_89) t k) ?_
        have c464 := (Arv.other j28_8 W445 nesx1)
        obtain ⟨cl465, Ar465, q465, S465, N465v, H465v, G465v⟩ := c464
        have c464 : Arv Z h445 w_weights_a1 k_w_weights_a1 .double (8 : Int32) [(.double (FP.l2d w0)), (.double (FP.l2d w1)), (.double (FP.l2d w2)), (.double (FP.l2d w3)), (.double (FP.l2d w4)), (.double (FP.l2d w5)), (.double (FP.l2d w6)), (.double (FP.l2d w7))] (.double (FP.l2d (0 : Int64))) := ⟨cl465, Ar465, q465, S465, N465v, H465v, G465v⟩
        have hin465 : ¬ (r3 < 0 ∨ cl465.slots.size ≤ (r3).toNatClampNeg) := inb_of S465 hR3
        have hat465 : cl465.slots[(r3).toNatClampNeg]? = some (.double (FP.l2d ve3)) := H465v.at hin465 (own_getE hR3 hE3)
        refine own_preJ (B := T461.setTop (mkF m 91 #[.val (.ref a1), .val (.ref a2), .val (.double d3), .second, .val (.int (4 : Int32)), .unset, .unset] [(.double (FP.l2d ve3)), (.double (FP.l2d (0 : Int64)))])) (fun t k => X461.daload hx (j := r3) (v := (.double (FP.l2d ve3))) (by rw [e461]; exact Ar465.1) (State.isArrayOf_alike hZ.alike Ar465.2.1) Ar465.2.2 hin465 hat465 (g := (mkF m 90 #[.val (.ref a1), .val (.ref a2), .val (.double d3), .second, .val (.int (4 : Int32)), .unset, .unset] [(.int r3), (.ref w_weights_a1), (.double (FP.l2d (0 : Int64)))])) rfl rfl (hb hby d4_90) t k) ?_
        refine own_preJ (B := T461.setTop (mkF m 92 #[.val (.ref a1), .val (.ref a2), .val (.double d3), .second, .val (.int (4 : Int32)), .unset, .unset] [(.double (FP.l2d ((0 : Int64) + ve3)))])) (fun t k => XS.daddS X461.here hx rfl (hb hby d4_91) rfl (nn_w (own_add own_B0 hB3 (by decide))) (own_add own_B0 hB3 (by decide)) k) ?_
        refine own_preJ (B := T461.setTop (mkF m 94 #[.val (.ref a1), .val (.ref a2), .val (.double d3), .second, .val (.int (4 : Int32)), .val (.double (FP.l2d ((0 : Int64) + ve3))), .second] [])) (fun t k => XS.dstore X461.here hx rfl (hb hby d4_92) rfl (l' := #[.val (.ref a1), .val (.ref a2), .val (.double d3), .second, .val (.int (4 : Int32)), .val (.double (FP.l2d ((0 : Int64) + ve3))), .second]) rfl k) ?_
        refine own_preJ (B := T461.setTop (mkF m 95 #[.val (.ref a1), .val (.ref a2), .val (.double d3), .second, .val (.int (4 : Int32)), .val (.double (FP.l2d ((0 : Int64) + ve3))), .second] [(.ref a1)])) (fun t k => XS.aloadN X461.here hx rfl (hb hby d4_94) rfl rfl k) ?_
        obtain ⟨T466, X466, e466, st466⟩ := getF X461 hx hZ hown (host := "") (Or.inl (hw _ (ow 19 rfl))) Via.refl e461 c457 (g := (mkF m 95 #[.val (.ref a1), .val (.ref a2), .val (.double d3), .second, .val (.int (4 : Int32)), .val (.double (FP.l2d ((0 : Int64) + ve3))), .second] [(.ref a1)])) rfl rfl (hb hby d4_95)
        refine own_preJ (B := T466.setTop (mkF m 98 #[.val (.ref a1), .val (.ref a2), .val (.double d3), .second, .val (.int (4 : Int32)), .val (.double (FP.l2d ((0 : Int64) + ve3))), .second] [(.ref sx)])) (fun t k => st466 t k) ?_
        refine own_preJ (B := T466.setTop (mkF m 100 #[.val (.ref a1), .val (.ref a2), .val (.double d3), .second, .val (.int (4 : Int32)), .val (.double (FP.l2d ((0 : Int64) + ve3))), .second] [(.int (4 : Int32)), (.ref sx)])) (fun t k => XS.iload X466.here hx rfl (hb hby d4_98) rfl k) ?_
        refine own_preJ (B := T466.setTop (mkF m 101 #[.val (.ref a1), .val (.ref a2), .val (.double d3), .second, .val (.int (4 : Int32)), .val (.double (FP.l2d ((0 : Int64) + ve3))), .second] [(.int (1 : Int32)), (.int (4 : Int32)), (.ref sx)])) (fun t k => XS.iconst X466.here hx rfl (hb hby d4_100) k) ?_
        refine own_preJ (B := T466.setTop (mkF m 102 #[.val (.ref a1), .val (.ref a2), .val (.double d3), .second, .val (.int (4 : Int32)), .val (.double (FP.l2d ((0 : Int64) + ve3))), .second] [(.int (3 : Int32)), (.ref sx)])) (fun t k => XS.isub X466.here hx rfl (hb hby d4_101) rfl k) ?_
        refine own_preJ (B := T466.setTop (mkF m 104 #[.val (.ref a1), .val (.ref a2), .val (.double d3), .second, .val (.int (4 : Int32)), .val (.double (FP.l2d ((0 : Int64) + ve3))), .second] [(.double (FP.l2d ((0 : Int64) + ve3))), (.int (3 : Int32)), (.ref sx)])) (fun t k => XS.dload X466.here hx rfl (hb hby d4_102) rfl k) ?_
        obtain ⟨cl467, Ar467, q467, S467, N467v, H467v, G467v⟩ := V445
        have V445 : Arv Z h445 sx kx .double nx [(.double x0), (.double x1), (.double x2), (.double x3), (.double (FP.l2d (0 : Int64)))] (.double (FP.l2d (0 : Int64))) := ⟨cl467, Ar467, q467, S467, N467v, H467v, G467v⟩
        have hin467 : ¬ ((3 : Int32) < 0 ∨ cl467.slots.size ≤ ((3 : Int32)).toNatClampNeg) := inb_of S467 ⟨by decide, own_ltle hlt (by decide)⟩
        obtain ⟨T468, h468, X468, e468, W468, st468⟩ := stD X466 hx hZ e466 Ar467 (j := (3 : Int32)) hin467 (g := (mkF m 104 #[.val (.ref a1), .val (.ref a2), .val (.double d3), .second, .val (.int (4 : Int32)), .val (.double (FP.l2d ((0 : Int64) + ve3))), .second] [(.double (FP.l2d ((0 : Int64) + ve3))), (.int (3 : Int32)), (.ref sx)])) rfl rfl (hb hby d4_104)
        have V468 : Arv Z h468 sx kx .double nx [(.double x0), (.double x1), (.double x2), (.double (FP.l2d ((0 : Int64) + ve3))), (.double (FP.l2d (0 : Int64)))] (.double (FP.l2d (0 : Int64))) := Arv.set Ar467 q467 S467 N467v H467v G467v rfl W468 3 rfl (Nat.le_of_ble_eq_true rfl)
        have N468 := Fr.snoc X468 Nh446 gsx
        obtain ⟨Lh469, Xh469, Nh469⟩ := own_hide X468 N468
        refine own_preJ (B := T468.setTop (mkF m 105 #[.val (.ref a1), .val (.ref a2), .val (.double d3), .second, .val (.int (4 : Int32)), .val (.double (FP.l2d ((0 : Int64) + ve3))), .second] [])) (fun t k => st468 t k) ?_
        refine own_preJ (B := T468.setTop (mkF m 107 #[.val (.ref a1), .val (.ref a2), .val (.double d3), .second, .val (.int (4 : Int32)), .val (.double (FP.l2d ((0 : Int64) + ve3))), .second] [(.double (FP.l2d ((0 : Int64) + ve3)))])) (fun t k => XS.dload Xh469.here hx rfl (hb hby d4_105) rfl k) ?_
        refine own_preJ (B := T468.setTop (mkF m 108 #[.val (.ref a1), .val (.ref a2), .val (.double d3), .second, .val (.int (4 : Int32)), .val (.double (FP.l2d ((0 : Int64) + ve3))), .second] [(.double d3), (.double (FP.l2d ((0 : Int64) + ve3)))])) (fun t k => XS.dloadN Xh469.here hx rfl (hb hby d4_107) rfl k) ?_
        refine own_preJ (B := T468.setTop (mkF m 109 #[.val (.ref a1), .val (.ref a2), .val (.double d3), .second, .val (.int (4 : Int32)), .val (.double (FP.l2d ((0 : Int64) + ve3))), .second] [(.int (lcmpW (((0 : Int64) + ve3) + ((0 : Int64) + ve3)) kq))])) (fun t k => XS.dcmpS Xh469.here hx rfl (hb hby d4_108) rfl (own_cmpd hd (own_Badd own_B0 hB3 (by decide)) (by decide) hk _) k) ?_
        by_cases hc109_470 : (((0 : Int64) + ve3) + ((0 : Int64) + ve3)) < kq
        · refine own_preJ (B := T468.setTop (mkF m 115 #[.val (.ref a1), .val (.ref a2), .val (.double d3), .second, .val (.int (4 : Int32)), .val (.double (FP.l2d ((0 : Int64) + ve3))), .second] [])) (fun t k => XS.ifYes Xh469.here hx rfl (pc0 := 109) (pc' := 115) rfl (hb hby d4_109) rfl ((if0 _ _).trans (tlt ((lw_lt (((0 : Int64) + ve3) + ((0 : Int64) + ve3)) kq).mpr hc109_470)).1) (by decide) (by decide) k) ?_
          refine own_preJ (B := T468.setTop (mkF m 118 #[.val (.ref a1), .val (.ref a2), .val (.double d3), .second, .val (.int (3 : Int32)), .val (.double (FP.l2d ((0 : Int64) + ve3))), .second] [])) (fun t k => XS.iinc Xh469.here hx rfl (hb hby d4_115) rfl (l' := #[.val (.ref a1), .val (.ref a2), .val (.double d3), .second, .val (.int (3 : Int32)), .val (.double (FP.l2d ((0 : Int64) + ve3))), .second]) rfl k) ?_
          refine own_preJ (B := T468.setTop (mkF m 68 #[.val (.ref a1), .val (.ref a2), .val (.double d3), .second, .val (.int (3 : Int32)), .val (.double (FP.l2d ((0 : Int64) + ve3))), .second] [])) (fun t k => XS.goto Xh469.here hx rfl (pc0 := 118) (pc' := 68) rfl (hb hby d4_118) (by decide) (by decide) k) ?_
          refine own_preJ (B := T468.setTop (mkF m 70 #[.val (.ref a1), .val (.ref a2), .val (.double d3), .second, .val (.int (3 : Int32)), .val (.double (FP.l2d ((0 : Int64) + ve3))), .second] [(.int (3 : Int32))])) (fun t k => XS.iload Xh469.here hx rfl (hb hby d4_68) rfl k) ?_
          refine own_preJ (B := T468.setTop (mkF m 73 #[.val (.ref a1), .val (.ref a2), .val (.double d3), .second, .val (.int (3 : Int32)), .val (.double (FP.l2d ((0 : Int64) + ve3))), .second] [])) (fun t k => XS.ifNo Xh469.here hx rfl (hb hby d4_70) rfl ((if0 _ _).trans (tlt (by decide : (0 : Int32) < (3 : Int32))).2.2.2) k) ?_
          refine own_preJ (B := T468.setTop (mkF m 74 #[.val (.ref a1), .val (.ref a2), .val (.double d3), .second, .val (.int (3 : Int32)), .val (.double (FP.l2d ((0 : Int64) + ve3))), .second] [(.ref a1)])) (fun t k => XS.aloadN Xh469.here hx rfl (hb hby d4_73) rfl rfl k) ?_
          have c471 := (Fld.other W468 c457 (Or.inl nesx0))
          obtain ⟨T472, X472, e472, st472⟩ := getF Xh469 hx hZ hown (host := "") (Or.inl (hw _ (ow 19 rfl))) Via.refl e468 c471 (g := (mkF m 74 #[.val (.ref a1), .val (.ref a2), .val (.double d3), .second, .val (.int (3 : Int32)), .val (.double (FP.l2d ((0 : Int64) + ve3))), .second] [(.ref a1)])) rfl rfl (hb hby d4_74)
          refine own_preJ (B := T472.setTop (mkF m 77 #[.val (.ref a1), .val (.ref a2), .val (.double d3), .second, .val (.int (3 : Int32)), .val (.double (FP.l2d ((0 : Int64) + ve3))), .second] [(.ref sx)])) (fun t k => st472 t k) ?_
          refine own_preJ (B := T472.setTop (mkF m 79 #[.val (.ref a1), .val (.ref a2), .val (.double d3), .second, .val (.int (3 : Int32)), .val (.double (FP.l2d ((0 : Int64) + ve3))), .second] [(.int (3 : Int32)), (.ref sx)])) (fun t k => XS.iload X472.here hx rfl (hb hby d4_77) rfl k) ?_
          obtain ⟨cl473, Ar473, q473, S473, N473v, H473v, G473v⟩ := V468
          have V468 : Arv Z h468 sx kx .double nx [(.double x0), (.double x1), (.double x2), (.double (FP.l2d ((0 : Int64) + ve3))), (.double (FP.l2d (0 : Int64)))] (.double (FP.l2d (0 : Int64))) := ⟨cl473, Ar473, q473, S473, N473v, H473v, G473v⟩
          have hin473 : ¬ ((3 : Int32) < 0 ∨ cl473.slots.size ≤ ((3 : Int32)).toNatClampNeg) := inb_of S473 ⟨by decide, own_ltle hlt (by decide)⟩
          have hat473 : cl473.slots[((3 : Int32)).toNatClampNeg]? = some (.double (FP.l2d ((0 : Int64) + ve3))) := H473v.at hin473 rfl
          refine own_preJ (B := T472.setTop (mkF m 80 #[.val (.ref a1), .val (.ref a2), .val (.double d3), .second, .val (.int (3 : Int32)), .val (.double (FP.l2d ((0 : Int64) + ve3))), .second] [(.double (FP.l2d ((0 : Int64) + ve3)))])) (fun t k => X472.daload hx (j := (3 : Int32)) (v := (.double (FP.l2d ((0 : Int64) + ve3)))) (by rw [e472]; exact Ar473.1) (State.isArrayOf_alike hZ.alike Ar473.2.1) Ar473.2.2 hin473 hat473 (g := (mkF m 79 #[.val (.ref a1), .val (.ref a2), .val (.double d3), .second, .val (.int (3 : Int32)), .val (.double (FP.l2d ((0 : Int64) + ve3))), .second] [(.int (3 : Int32)), (.ref sx)])) rfl rfl (hb hby d4_79) t k) ?_
          refine own_preJ (B := T472.setTop (mkF m 81 #[.val (.ref a1), .val (.ref a2), .val (.double d3), .second, .val (.int (3 : Int32)), .val (.double (FP.l2d ((0 : Int64) + ve3))), .second] [(.ref a1), (.double (FP.l2d ((0 : Int64) + ve3)))])) (fun t k => XS.aloadN X472.here hx rfl (hb hby d4_80) rfl rfl k) ?_
          have c474 := (Fld.other W468 c460 (Or.inl nesx0))
          obtain ⟨T475, X475, e475, st475⟩ := getF X472 hx hZ hown (host := "") (Or.inl (hw _ (ow 25 rfl))) Via.refl e472 c474 (g := (mkF m 81 #[.val (.ref a1), .val (.ref a2), .val (.double d3), .second, .val (.int (3 : Int32)), .val (.double (FP.l2d ((0 : Int64) + ve3))), .second] [(.ref a1), (.double (FP.l2d ((0 : Int64) + ve3)))])) rfl rfl (hb hby d4_81)
          refine own_preJ (B := T475.setTop (mkF m 84 #[.val (.ref a1), .val (.ref a2), .val (.double d3), .second, .val (.int (3 : Int32)), .val (.double (FP.l2d ((0 : Int64) + ve3))), .second] [(.ref w_weights_a1), (.double (FP.l2d ((0 : Int64) + ve3)))])) (fun t k => st475 t k) ?_
          refine own_preJ (B := T475.setTop (mkF m 85 #[.val (.ref a1), .val (.ref a2), .val (.double d3), .second, .val (.int (3 : Int32)), .val (.double (FP.l2d ((0 : Int64) + ve3))), .second] [(.ref a2), (.ref w_weights_a1), (.double (FP.l2d ((0 : Int64) + ve3)))])) (fun t k => XS.aloadN X475.here hx rfl (hb hby d4_84) rfl rfl k) ?_
          refine own_preJ (B := T475.setTop (mkF m 87 #[.val (.ref a1), .val (.ref a2), .val (.double d3), .second, .val (.int (3 : Int32)), .val (.double (FP.l2d ((0 : Int64) + ve3))), .second] [(.int (3 : Int32)), (.ref a2), (.ref w_weights_a1), (.double (FP.l2d ((0 : Int64) + ve3)))])) (fun t k => XS.iload X475.here hx rfl (hb hby d4_85) rfl k) ?_
          refine own_preJ (B := T475.setTop (mkF m 88 #[.val (.ref a1), .val (.ref a2), .val (.double d3), .second, .val (.int (3 : Int32)), .val (.double (FP.l2d ((0 : Int64) + ve3))), .second] [(.int (1 : Int32)), (.int (3 : Int32)), (.ref a2), (.ref w_weights_a1), (.double (FP.l2d ((0 : Int64) + ve3)))])) (fun t k => XS.iconst X475.here hx rfl (hb hby d4_87) k) ?_
          refine own_preJ (B := T475.setTop (mkF m 89 #[.val (.ref a1), .val (.ref a2), .val (.double d3), .second, .val (.int (3 : Int32)), .val (.double (FP.l2d ((0 : Int64) + ve3))), .second] [(.int (2 : Int32)), (.ref a2), (.ref w_weights_a1), (.double (FP.l2d ((0 : Int64) + ve3)))])) (fun t k => XS.isub X475.here hx rfl (hb hby d4_88) rfl k) ?_
          have c476 := (Arv.other c462 W468 nesx2)
          obtain ⟨cl477, Ar477, q477, S477, N477v, H477v, G477v⟩ := c476
          have c476 : Arv Z h468 a2 k_a2 .int (4 : Int32) [(.int r0), (.int r1), (.int r2), (.int r3)] (.int (0 : Int32)) := ⟨cl477, Ar477, q477, S477, N477v, H477v, G477v⟩
          have hin477 : ¬ ((2 : Int32) < 0 ∨ cl477.slots.size ≤ ((2 : Int32)).toNatClampNeg) := inb_of S477 ⟨by decide, by decide⟩
          have hat477 : cl477.slots[((2 : Int32)).toNatClampNeg]? = some (.int r2) := H477v.at hin477 rfl
          refine own_preJ (B := T475.setTop (mkF m 90 #[.val (.ref a1), .val (.ref a2), .val (.double d3), .second, .val (.int (3 : Int32)), .val (.double (FP.l2d ((0 : Int64) + ve3))), .second] [(.int r2), (.ref w_weights_a1), (.double (FP.l2d ((0 : Int64) + ve3)))])) (fun t k => X475.iaload hx (j := (2 : Int32)) (v := (.int r2)) (by rw [e475]; exact Ar477.1) (State.isArrayOf_alike hZ.alike Ar477.2.1) Ar477.2.2 hin477 hat477 (g := (mkF m 89 #[.val (.ref a1), .val (.ref a2), .val (.double d3), .second, .val (.int (3 : Int32)), .val (.double (FP.l2d ((0 : Int64) + ve3))), .second] [(.int (2 : Int32)), (.ref a2), (.ref w_weights_a1), (.double (FP.l2d ((0 : Int64) + ve3)))])) rfl rfl (hb hby d4_89) t k) ?_
          have c478 := (Arv.other c464 W468 nesx1)
          obtain ⟨cl479, Ar479, q479, S479, N479v, H479v, G479v⟩ := c478
          have c478 : Arv Z h468 w_weights_a1 k_w_weights_a1 .double (8 : Int32) [(.double (FP.l2d w0)), (.double (FP.l2d w1)), (.double (FP.l2d w2)), (.double (FP.l2d w3)), (.double (FP.l2d w4)), (.double (FP.l2d w5)), (.double (FP.l2d w6)), (.double (FP.l2d w7))] (.double (FP.l2d (0 : Int64))) := ⟨cl479, Ar479, q479, S479, N479v, H479v, G479v⟩
          have hin479 : ¬ (r2 < 0 ∨ cl479.slots.size ≤ (r2).toNatClampNeg) := inb_of S479 hR2
          have hat479 : cl479.slots[(r2).toNatClampNeg]? = some (.double (FP.l2d ve2)) := H479v.at hin479 (own_getE hR2 hE2)
          refine own_preJ (B := T475.setTop (mkF m 91 #[.val (.ref a1), .val (.ref a2), .val (.double d3), .second, .val (.int (3 : Int32)), .val (.double (FP.l2d ((0 : Int64) + ve3))), .second] [(.double (FP.l2d ve2)), (.double (FP.l2d ((0 : Int64) + ve3)))])) (fun t k => X475.daload hx (j := r2) (v := (.double (FP.l2d ve2))) (by rw [e475]; exact Ar479.1) (State.isArrayOf_alike hZ.alike Ar479.2.1) Ar479.2.2 hin479 hat479 (g := (mkF m 90 #[.val (.ref a1), .val (.ref a2), .val (.double d3), .second, .val (.int (3 : Int32)), .val (.double (FP.l2d ((0 : Int64) + ve3))), .second] [(.int r2), (.ref w_weights_a1), (.double (FP.l2d ((0 : Int64) + ve3)))])) rfl rfl (hb hby d4_90) t k) ?_
          refine own_preJ (B := T475.setTop (mkF m 92 #[.val (.ref a1), .val (.ref a2), .val (.double d3), .second, .val (.int (3 : Int32)), .val (.double (FP.l2d ((0 : Int64) + ve3))), .second] [(.double (FP.l2d (((0 : Int64) + ve3) + ve2)))])) (fun t k => XS.daddS X475.here hx rfl (hb hby d4_91) rfl (nn_w (own_add (own_Badd own_B0 hB3 (by decide)) hB2 (by decide))) (own_add (own_Badd own_B0 hB3 (by decide)) hB2 (by decide)) k) ?_
          refine own_preJ (B := T475.setTop (mkF m 94 #[.val (.ref a1), .val (.ref a2), .val (.double d3), .second, .val (.int (3 : Int32)), .val (.double (FP.l2d (((0 : Int64) + ve3) + ve2))), .second] [])) (fun t k => XS.dstore X475.here hx rfl (hb hby d4_92) rfl (l' := #[.val (.ref a1), .val (.ref a2), .val (.double d3), .second, .val (.int (3 : Int32)), .val (.double (FP.l2d (((0 : Int64) + ve3) + ve2))), .second]) rfl k) ?_
          refine own_preJ (B := T475.setTop (mkF m 95 #[.val (.ref a1), .val (.ref a2), .val (.double d3), .second, .val (.int (3 : Int32)), .val (.double (FP.l2d (((0 : Int64) + ve3) + ve2))), .second] [(.ref a1)])) (fun t k => XS.aloadN X475.here hx rfl (hb hby d4_94) rfl rfl k) ?_
          obtain ⟨T480, X480, e480, st480⟩ := getF X475 hx hZ hown (host := "") (Or.inl (hw _ (ow 19 rfl))) Via.refl e475 c471 (g := (mkF m 95 #[.val (.ref a1), .val (.ref a2), .val (.double d3), .second, .val (.int (3 : Int32)), .val (.double (FP.l2d (((0 : Int64) + ve3) + ve2))), .second] [(.ref a1)])) rfl rfl (hb hby d4_95)
          refine own_preJ (B := T480.setTop (mkF m 98 #[.val (.ref a1), .val (.ref a2), .val (.double d3), .second, .val (.int (3 : Int32)), .val (.double (FP.l2d (((0 : Int64) + ve3) + ve2))), .second] [(.ref sx)])) (fun t k => st480 t k) ?_
          refine own_preJ (B := T480.setTop (mkF m 100 #[.val (.ref a1), .val (.ref a2), .val (.double d3), .second, .val (.int (3 : Int32)), .val (.double (FP.l2d (((0 : Int64) + ve3) + ve2))), .second] [(.int (3 : Int32)), (.ref sx)])) (fun t k => XS.iload X480.here hx rfl (hb hby d4_98) rfl k) ?_
          refine own_preJ (B := T480.setTop (mkF m 101 #[.val (.ref a1), .val (.ref a2), .val (.double d3), .second, .val (.int (3 : Int32)), .val (.double (FP.l2d (((0 : Int64) + ve3) + ve2))), .second] [(.int (1 : Int32)), (.int (3 : Int32)), (.ref sx)])) (fun t k => XS.iconst X480.here hx rfl (hb hby d4_100) k) ?_
          refine own_preJ (B := T480.setTop (mkF m 102 #[.val (.ref a1), .val (.ref a2), .val (.double d3), .second, .val (.int (3 : Int32)), .val (.double (FP.l2d (((0 : Int64) + ve3) + ve2))), .second] [(.int (2 : Int32)), (.ref sx)])) (fun t k => XS.isub X480.here hx rfl (hb hby d4_101) rfl k) ?_
          refine own_preJ (B := T480.setTop (mkF m 104 #[.val (.ref a1), .val (.ref a2), .val (.double d3), .second, .val (.int (3 : Int32)), .val (.double (FP.l2d (((0 : Int64) + ve3) + ve2))), .second] [(.double (FP.l2d (((0 : Int64) + ve3) + ve2))), (.int (2 : Int32)), (.ref sx)])) (fun t k => XS.dload X480.here hx rfl (hb hby d4_102) rfl k) ?_
          have K481 : Keep h0 h468 [a1, w_suffix_a1] := (Keep.wr K455 W468 msx)
          obtain ⟨cl482, Ar482, q482, S482, N482v, H482v, G482v⟩ := V468
          have V468 : Arv Z h468 sx kx .double nx [(.double x0), (.double x1), (.double x2), (.double (FP.l2d ((0 : Int64) + ve3))), (.double (FP.l2d (0 : Int64)))] (.double (FP.l2d (0 : Int64))) := ⟨cl482, Ar482, q482, S482, N482v, H482v, G482v⟩
          have hin482 : ¬ ((2 : Int32) < 0 ∨ cl482.slots.size ≤ ((2 : Int32)).toNatClampNeg) := inb_of S482 ⟨by decide, own_ltle hlt (by decide)⟩
          obtain ⟨T483, h483, X483, e483, W483, st483⟩ := stD X480 hx hZ e480 Ar482 (j := (2 : Int32)) hin482 (g := (mkF m 104 #[.val (.ref a1), .val (.ref a2), .val (.double d3), .second, .val (.int (3 : Int32)), .val (.double (FP.l2d (((0 : Int64) + ve3) + ve2))), .second] [(.double (FP.l2d (((0 : Int64) + ve3) + ve2))), (.int (2 : Int32)), (.ref sx)])) rfl rfl (hb hby d4_104)
          have V483 : Arv Z h483 sx kx .double nx [(.double x0), (.double x1), (.double (FP.l2d (((0 : Int64) + ve3) + ve2))), (.double (FP.l2d ((0 : Int64) + ve3))), (.double (FP.l2d (0 : Int64)))] (.double (FP.l2d (0 : Int64))) := Arv.set Ar482 q482 S482 N482v H482v G482v rfl W483 2 rfl (Nat.le_of_ble_eq_true rfl)
          have N483 := Fr.snoc X483 Nh469 gsx
          obtain ⟨Lh484, Xh484, Nh484⟩ := own_hide X483 N483
          refine own_preJ (B := T483.setTop (mkF m 105 #[.val (.ref a1), .val (.ref a2), .val (.double d3), .second, .val (.int (3 : Int32)), .val (.double (FP.l2d (((0 : Int64) + ve3) + ve2))), .second] [])) (fun t k => st483 t k) ?_
          refine own_preJ (B := T483.setTop (mkF m 107 #[.val (.ref a1), .val (.ref a2), .val (.double d3), .second, .val (.int (3 : Int32)), .val (.double (FP.l2d (((0 : Int64) + ve3) + ve2))), .second] [(.double (FP.l2d (((0 : Int64) + ve3) + ve2)))])) (fun t k => XS.dload Xh484.here hx rfl (hb hby d4_105) rfl k) ?_
          refine own_preJ (B := T483.setTop (mkF m 108 #[.val (.ref a1), .val (.ref a2), .val (.double d3), .second, .val (.int (3 : Int32)), .val (.double (FP.l2d (((0 : Int64) + ve3) + ve2))), .second] [(.double d3), (.double (FP.l2d (((0 : Int64) + ve3) + ve2)))])) (fun t k => XS.dloadN Xh484.here hx rfl (hb hby d4_107) rfl k) ?_
          refine own_preJ (B := T483.setTop (mkF m 109 #[.val (.ref a1), .val (.ref a2), .val (.double d3), .second, .val (.int (3 : Int32)), .val (.double (FP.l2d (((0 : Int64) + ve3) + ve2))), .second] [(.int (lcmpW ((((0 : Int64) + ve3) + ve2) + (((0 : Int64) + ve3) + ve2)) kq))])) (fun t k => XS.dcmpS Xh484.here hx rfl (hb hby d4_108) rfl (own_cmpd hd (own_Badd (own_Badd own_B0 hB3 (by decide)) hB2 (by decide)) (by decide) hk _) k) ?_
          by_cases hc109_485 : ((((0 : Int64) + ve3) + ve2) + (((0 : Int64) + ve3) + ve2)) < kq
          · refine own_preJ (B := T483.setTop (mkF m 115 #[.val (.ref a1), .val (.ref a2), .val (.double d3), .second, .val (.int (3 : Int32)), .val (.double (FP.l2d (((0 : Int64) + ve3) + ve2))), .second] [])) (fun t k => XS.ifYes Xh484.here hx rfl (pc0 := 109) (pc' := 115) rfl (hb hby d4_109) rfl ((if0 _ _).trans (tlt ((lw_lt ((((0 : Int64) + ve3) + ve2) + (((0 : Int64) + ve3) + ve2)) kq).mpr hc109_485)).1) (by decide) (by decide) k) ?_
            refine own_preJ (B := T483.setTop (mkF m 118 #[.val (.ref a1), .val (.ref a2), .val (.double d3), .second, .val (.int (2 : Int32)), .val (.double (FP.l2d (((0 : Int64) + ve3) + ve2))), .second] [])) (fun t k => XS.iinc Xh484.here hx rfl (hb hby d4_115) rfl (l' := #[.val (.ref a1), .val (.ref a2), .val (.double d3), .second, .val (.int (2 : Int32)), .val (.double (FP.l2d (((0 : Int64) + ve3) + ve2))), .second]) rfl k) ?_
            refine own_preJ (B := T483.setTop (mkF m 68 #[.val (.ref a1), .val (.ref a2), .val (.double d3), .second, .val (.int (2 : Int32)), .val (.double (FP.l2d (((0 : Int64) + ve3) + ve2))), .second] [])) (fun t k => XS.goto Xh484.here hx rfl (pc0 := 118) (pc' := 68) rfl (hb hby d4_118) (by decide) (by decide) k) ?_
            refine own_preJ (B := T483.setTop (mkF m 70 #[.val (.ref a1), .val (.ref a2), .val (.double d3), .second, .val (.int (2 : Int32)), .val (.double (FP.l2d (((0 : Int64) + ve3) + ve2))), .second] [(.int (2 : Int32))])) (fun t k => XS.iload Xh484.here hx rfl (hb hby d4_68) rfl k) ?_
            refine own_preJ (B := T483.setTop (mkF m 73 #[.val (.ref a1), .val (.ref a2), .val (.double d3), .second, .val (.int (2 : Int32)), .val (.double (FP.l2d (((0 : Int64) + ve3) + ve2))), .second] [])) (fun t k => XS.ifNo Xh484.here hx rfl (hb hby d4_70) rfl ((if0 _ _).trans (tlt (by decide : (0 : Int32) < (2 : Int32))).2.2.2) k) ?_
            refine own_preJ (B := T483.setTop (mkF m 74 #[.val (.ref a1), .val (.ref a2), .val (.double d3), .second, .val (.int (2 : Int32)), .val (.double (FP.l2d (((0 : Int64) + ve3) + ve2))), .second] [(.ref a1)])) (fun t k => XS.aloadN Xh484.here hx rfl (hb hby d4_73) rfl rfl k) ?_
            have c486 := (Fld.other W483 c471 (Or.inl nesx0))
            obtain ⟨T487, X487, e487, st487⟩ := getF Xh484 hx hZ hown (host := "") (Or.inl (hw _ (ow 19 rfl))) Via.refl e483 c486 (g := (mkF m 74 #[.val (.ref a1), .val (.ref a2), .val (.double d3), .second, .val (.int (2 : Int32)), .val (.double (FP.l2d (((0 : Int64) + ve3) + ve2))), .second] [(.ref a1)])) rfl rfl (hb hby d4_74)
            refine own_preJ (B := T487.setTop (mkF m 77 #[.val (.ref a1), .val (.ref a2), .val (.double d3), .second, .val (.int (2 : Int32)), .val (.double (FP.l2d (((0 : Int64) + ve3) + ve2))), .second] [(.ref sx)])) (fun t k => st487 t k) ?_
            refine own_preJ (B := T487.setTop (mkF m 79 #[.val (.ref a1), .val (.ref a2), .val (.double d3), .second, .val (.int (2 : Int32)), .val (.double (FP.l2d (((0 : Int64) + ve3) + ve2))), .second] [(.int (2 : Int32)), (.ref sx)])) (fun t k => XS.iload X487.here hx rfl (hb hby d4_77) rfl k) ?_
            obtain ⟨cl488, Ar488, q488, S488, N488v, H488v, G488v⟩ := V483
            have V483 : Arv Z h483 sx kx .double nx [(.double x0), (.double x1), (.double (FP.l2d (((0 : Int64) + ve3) + ve2))), (.double (FP.l2d ((0 : Int64) + ve3))), (.double (FP.l2d (0 : Int64)))] (.double (FP.l2d (0 : Int64))) := ⟨cl488, Ar488, q488, S488, N488v, H488v, G488v⟩
            have hin488 : ¬ ((2 : Int32) < 0 ∨ cl488.slots.size ≤ ((2 : Int32)).toNatClampNeg) := inb_of S488 ⟨by decide, own_ltle hlt (by decide)⟩
            have hat488 : cl488.slots[((2 : Int32)).toNatClampNeg]? = some (.double (FP.l2d (((0 : Int64) + ve3) + ve2))) := H488v.at hin488 rfl
            refine own_preJ (B := T487.setTop (mkF m 80 #[.val (.ref a1), .val (.ref a2), .val (.double d3), .second, .val (.int (2 : Int32)), .val (.double (FP.l2d (((0 : Int64) + ve3) + ve2))), .second] [(.double (FP.l2d (((0 : Int64) + ve3) + ve2)))])) (fun t k => X487.daload hx (j := (2 : Int32)) (v := (.double (FP.l2d (((0 : Int64) + ve3) + ve2)))) (by rw [e487]; exact Ar488.1) (State.isArrayOf_alike hZ.alike Ar488.2.1) Ar488.2.2 hin488 hat488 (g := (mkF m 79 #[.val (.ref a1), .val (.ref a2), .val (.double d3), .second, .val (.int (2 : Int32)), .val (.double (FP.l2d (((0 : Int64) + ve3) + ve2))), .second] [(.int (2 : Int32)), (.ref sx)])) rfl rfl (hb hby d4_79) t k) ?_
            refine own_preJ (B := T487.setTop (mkF m 81 #[.val (.ref a1), .val (.ref a2), .val (.double d3), .second, .val (.int (2 : Int32)), .val (.double (FP.l2d (((0 : Int64) + ve3) + ve2))), .second] [(.ref a1), (.double (FP.l2d (((0 : Int64) + ve3) + ve2)))])) (fun t k => XS.aloadN X487.here hx rfl (hb hby d4_80) rfl rfl k) ?_
            have c489 := (Fld.other W483 c474 (Or.inl nesx0))
            obtain ⟨T490, X490, e490, st490⟩ := getF X487 hx hZ hown (host := "") (Or.inl (hw _ (ow 25 rfl))) Via.refl e487 c489 (g := (mkF m 81 #[.val (.ref a1), .val (.ref a2), .val (.double d3), .second, .val (.int (2 : Int32)), .val (.double (FP.l2d (((0 : Int64) + ve3) + ve2))), .second] [(.ref a1), (.double (FP.l2d (((0 : Int64) + ve3) + ve2)))])) rfl rfl (hb hby d4_81)
            refine own_preJ (B := T490.setTop (mkF m 84 #[.val (.ref a1), .val (.ref a2), .val (.double d3), .second, .val (.int (2 : Int32)), .val (.double (FP.l2d (((0 : Int64) + ve3) + ve2))), .second] [(.ref w_weights_a1), (.double (FP.l2d (((0 : Int64) + ve3) + ve2)))])) (fun t k => st490 t k) ?_
            refine own_preJ (B := T490.setTop (mkF m 85 #[.val (.ref a1), .val (.ref a2), .val (.double d3), .second, .val (.int (2 : Int32)), .val (.double (FP.l2d (((0 : Int64) + ve3) + ve2))), .second] [(.ref a2), (.ref w_weights_a1), (.double (FP.l2d (((0 : Int64) + ve3) + ve2)))])) (fun t k => XS.aloadN X490.here hx rfl (hb hby d4_84) rfl rfl k) ?_
            refine own_preJ (B := T490.setTop (mkF m 87 #[.val (.ref a1), .val (.ref a2), .val (.double d3), .second, .val (.int (2 : Int32)), .val (.double (FP.l2d (((0 : Int64) + ve3) + ve2))), .second] [(.int (2 : Int32)), (.ref a2), (.ref w_weights_a1), (.double (FP.l2d (((0 : Int64) + ve3) + ve2)))])) (fun t k => XS.iload X490.here hx rfl (hb hby d4_85) rfl k) ?_
            refine own_preJ (B := T490.setTop (mkF m 88 #[.val (.ref a1), .val (.ref a2), .val (.double d3), .second, .val (.int (2 : Int32)), .val (.double (FP.l2d (((0 : Int64) + ve3) + ve2))), .second] [(.int (1 : Int32)), (.int (2 : Int32)), (.ref a2), (.ref w_weights_a1), (.double (FP.l2d (((0 : Int64) + ve3) + ve2)))])) (fun t k => XS.iconst X490.here hx rfl (hb hby d4_87) k) ?_
            refine own_preJ (B := T490.setTop (mkF m 89 #[.val (.ref a1), .val (.ref a2), .val (.double d3), .second, .val (.int (2 : Int32)), .val (.double (FP.l2d (((0 : Int64) + ve3) + ve2))), .second] [(.int (1 : Int32)), (.ref a2), (.ref w_weights_a1), (.double (FP.l2d (((0 : Int64) + ve3) + ve2)))])) (fun t k => XS.isub X490.here hx rfl (hb hby d4_88) rfl k) ?_
            have c491 := (Arv.other c476 W483 nesx2)
            obtain ⟨cl492, Ar492, q492, S492, N492v, H492v, G492v⟩ := c491
            have c491 : Arv Z h483 a2 k_a2 .int (4 : Int32) [(.int r0), (.int r1), (.int r2), (.int r3)] (.int (0 : Int32)) := ⟨cl492, Ar492, q492, S492, N492v, H492v, G492v⟩
            have hin492 : ¬ ((1 : Int32) < 0 ∨ cl492.slots.size ≤ ((1 : Int32)).toNatClampNeg) := inb_of S492 ⟨by decide, by decide⟩
            have hat492 : cl492.slots[((1 : Int32)).toNatClampNeg]? = some (.int r1) := H492v.at hin492 rfl
            refine own_preJ (B := T490.setTop (mkF m 90 #[.val (.ref a1), .val (.ref a2), .val (.double d3), .second, .val (.int (2 : Int32)), .val (.double (FP.l2d (((0 : Int64) + ve3) + ve2))), .second] [(.int r1), (.ref w_weights_a1), (.double (FP.l2d (((0 : Int64) + ve3) + ve2)))])) (fun t k => X490.iaload hx (j := (1 : Int32)) (v := (.int r1)) (by rw [e490]; exact Ar492.1) (State.isArrayOf_alike hZ.alike Ar492.2.1) Ar492.2.2 hin492 hat492 (g := (mkF m 89 #[.val (.ref a1), .val (.ref a2), .val (.double d3), .second, .val (.int (2 : Int32)), .val (.double (FP.l2d (((0 : Int64) + ve3) + ve2))), .second] [(.int (1 : Int32)), (.ref a2), (.ref w_weights_a1), (.double (FP.l2d (((0 : Int64) + ve3) + ve2)))])) rfl rfl (hb hby d4_89) t k) ?_
            have c493 := (Arv.other c478 W483 nesx1)
            obtain ⟨cl494, Ar494, q494, S494, N494v, H494v, G494v⟩ := c493
            have c493 : Arv Z h483 w_weights_a1 k_w_weights_a1 .double (8 : Int32) [(.double (FP.l2d w0)), (.double (FP.l2d w1)), (.double (FP.l2d w2)), (.double (FP.l2d w3)), (.double (FP.l2d w4)), (.double (FP.l2d w5)), (.double (FP.l2d w6)), (.double (FP.l2d w7))] (.double (FP.l2d (0 : Int64))) := ⟨cl494, Ar494, q494, S494, N494v, H494v, G494v⟩
            have hin494 : ¬ (r1 < 0 ∨ cl494.slots.size ≤ (r1).toNatClampNeg) := inb_of S494 hR1
            have hat494 : cl494.slots[(r1).toNatClampNeg]? = some (.double (FP.l2d ve1)) := H494v.at hin494 (own_getE hR1 hE1)
            refine own_preJ (B := T490.setTop (mkF m 91 #[.val (.ref a1), .val (.ref a2), .val (.double d3), .second, .val (.int (2 : Int32)), .val (.double (FP.l2d (((0 : Int64) + ve3) + ve2))), .second] [(.double (FP.l2d ve1)), (.double (FP.l2d (((0 : Int64) + ve3) + ve2)))])) (fun t k => X490.daload hx (j := r1) (v := (.double (FP.l2d ve1))) (by rw [e490]; exact Ar494.1) (State.isArrayOf_alike hZ.alike Ar494.2.1) Ar494.2.2 hin494 hat494 (g := (mkF m 90 #[.val (.ref a1), .val (.ref a2), .val (.double d3), .second, .val (.int (2 : Int32)), .val (.double (FP.l2d (((0 : Int64) + ve3) + ve2))), .second] [(.int r1), (.ref w_weights_a1), (.double (FP.l2d (((0 : Int64) + ve3) + ve2)))])) rfl rfl (hb hby d4_90) t k) ?_
            refine own_preJ (B := T490.setTop (mkF m 92 #[.val (.ref a1), .val (.ref a2), .val (.double d3), .second, .val (.int (2 : Int32)), .val (.double (FP.l2d (((0 : Int64) + ve3) + ve2))), .second] [(.double (FP.l2d ((((0 : Int64) + ve3) + ve2) + ve1)))])) (fun t k => XS.daddS X490.here hx rfl (hb hby d4_91) rfl (nn_w (own_add (own_Badd (own_Badd own_B0 hB3 (by decide)) hB2 (by decide)) hB1 (by decide))) (own_add (own_Badd (own_Badd own_B0 hB3 (by decide)) hB2 (by decide)) hB1 (by decide)) k) ?_
            refine own_preJ (B := T490.setTop (mkF m 94 #[.val (.ref a1), .val (.ref a2), .val (.double d3), .second, .val (.int (2 : Int32)), .val (.double (FP.l2d ((((0 : Int64) + ve3) + ve2) + ve1))), .second] [])) (fun t k => XS.dstore X490.here hx rfl (hb hby d4_92) rfl (l' := #[.val (.ref a1), .val (.ref a2), .val (.double d3), .second, .val (.int (2 : Int32)), .val (.double (FP.l2d ((((0 : Int64) + ve3) + ve2) + ve1))), .second]) rfl k) ?_
            refine own_preJ (B := T490.setTop (mkF m 95 #[.val (.ref a1), .val (.ref a2), .val (.double d3), .second, .val (.int (2 : Int32)), .val (.double (FP.l2d ((((0 : Int64) + ve3) + ve2) + ve1))), .second] [(.ref a1)])) (fun t k => XS.aloadN X490.here hx rfl (hb hby d4_94) rfl rfl k) ?_
            obtain ⟨T495, X495, e495, st495⟩ := getF X490 hx hZ hown (host := "") (Or.inl (hw _ (ow 19 rfl))) Via.refl e490 c486 (g := (mkF m 95 #[.val (.ref a1), .val (.ref a2), .val (.double d3), .second, .val (.int (2 : Int32)), .val (.double (FP.l2d ((((0 : Int64) + ve3) + ve2) + ve1))), .second] [(.ref a1)])) rfl rfl (hb hby d4_95)
            refine own_preJ (B := T495.setTop (mkF m 98 #[.val (.ref a1), .val (.ref a2), .val (.double d3), .second, .val (.int (2 : Int32)), .val (.double (FP.l2d ((((0 : Int64) + ve3) + ve2) + ve1))), .second] [(.ref sx)])) (fun t k => st495 t k) ?_
            refine own_preJ (B := T495.setTop (mkF m 100 #[.val (.ref a1), .val (.ref a2), .val (.double d3), .second, .val (.int (2 : Int32)), .val (.double (FP.l2d ((((0 : Int64) + ve3) + ve2) + ve1))), .second] [(.int (2 : Int32)), (.ref sx)])) (fun t k => XS.iload X495.here hx rfl (hb hby d4_98) rfl k) ?_
            refine own_preJ (B := T495.setTop (mkF m 101 #[.val (.ref a1), .val (.ref a2), .val (.double d3), .second, .val (.int (2 : Int32)), .val (.double (FP.l2d ((((0 : Int64) + ve3) + ve2) + ve1))), .second] [(.int (1 : Int32)), (.int (2 : Int32)), (.ref sx)])) (fun t k => XS.iconst X495.here hx rfl (hb hby d4_100) k) ?_
            refine own_preJ (B := T495.setTop (mkF m 102 #[.val (.ref a1), .val (.ref a2), .val (.double d3), .second, .val (.int (2 : Int32)), .val (.double (FP.l2d ((((0 : Int64) + ve3) + ve2) + ve1))), .second] [(.int (1 : Int32)), (.ref sx)])) (fun t k => XS.isub X495.here hx rfl (hb hby d4_101) rfl k) ?_
            refine own_preJ (B := T495.setTop (mkF m 104 #[.val (.ref a1), .val (.ref a2), .val (.double d3), .second, .val (.int (2 : Int32)), .val (.double (FP.l2d ((((0 : Int64) + ve3) + ve2) + ve1))), .second] [(.double (FP.l2d ((((0 : Int64) + ve3) + ve2) + ve1))), (.int (1 : Int32)), (.ref sx)])) (fun t k => XS.dload X495.here hx rfl (hb hby d4_102) rfl k) ?_
            have K496 : Keep h0 h483 [a1, w_suffix_a1] := (Keep.wr K481 W483 msx)
            obtain ⟨cl497, Ar497, q497, S497, N497v, H497v, G497v⟩ := V483
            have V483 : Arv Z h483 sx kx .double nx [(.double x0), (.double x1), (.double (FP.l2d (((0 : Int64) + ve3) + ve2))), (.double (FP.l2d ((0 : Int64) + ve3))), (.double (FP.l2d (0 : Int64)))] (.double (FP.l2d (0 : Int64))) := ⟨cl497, Ar497, q497, S497, N497v, H497v, G497v⟩
            have hin497 : ¬ ((1 : Int32) < 0 ∨ cl497.slots.size ≤ ((1 : Int32)).toNatClampNeg) := inb_of S497 ⟨by decide, own_ltle hlt (by decide)⟩
            obtain ⟨T498, h498, X498, e498, W498, st498⟩ := stD X495 hx hZ e495 Ar497 (j := (1 : Int32)) hin497 (g := (mkF m 104 #[.val (.ref a1), .val (.ref a2), .val (.double d3), .second, .val (.int (2 : Int32)), .val (.double (FP.l2d ((((0 : Int64) + ve3) + ve2) + ve1))), .second] [(.double (FP.l2d ((((0 : Int64) + ve3) + ve2) + ve1))), (.int (1 : Int32)), (.ref sx)])) rfl rfl (hb hby d4_104)
            have V498 : Arv Z h498 sx kx .double nx [(.double x0), (.double (FP.l2d ((((0 : Int64) + ve3) + ve2) + ve1))), (.double (FP.l2d (((0 : Int64) + ve3) + ve2))), (.double (FP.l2d ((0 : Int64) + ve3))), (.double (FP.l2d (0 : Int64)))] (.double (FP.l2d (0 : Int64))) := Arv.set Ar497 q497 S497 N497v H497v G497v rfl W498 1 rfl (Nat.le_of_ble_eq_true rfl)
            have N498 := Fr.snoc X498 Nh484 gsx
            obtain ⟨Lh499, Xh499, Nh499⟩ := own_hide X498 N498
            refine own_preJ (B := T498.setTop (mkF m 105 #[.val (.ref a1), .val (.ref a2), .val (.double d3), .second, .val (.int (2 : Int32)), .val (.double (FP.l2d ((((0 : Int64) + ve3) + ve2) + ve1))), .second] [])) (fun t k => st498 t k) ?_
            refine own_preJ (B := T498.setTop (mkF m 107 #[.val (.ref a1), .val (.ref a2), .val (.double d3), .second, .val (.int (2 : Int32)), .val (.double (FP.l2d ((((0 : Int64) + ve3) + ve2) + ve1))), .second] [(.double (FP.l2d ((((0 : Int64) + ve3) + ve2) + ve1)))])) (fun t k => XS.dload Xh499.here hx rfl (hb hby d4_105) rfl k) ?_
            refine own_preJ (B := T498.setTop (mkF m 108 #[.val (.ref a1), .val (.ref a2), .val (.double d3), .second, .val (.int (2 : Int32)), .val (.double (FP.l2d ((((0 : Int64) + ve3) + ve2) + ve1))), .second] [(.double d3), (.double (FP.l2d ((((0 : Int64) + ve3) + ve2) + ve1)))])) (fun t k => XS.dloadN Xh499.here hx rfl (hb hby d4_107) rfl k) ?_
            refine own_preJ (B := T498.setTop (mkF m 109 #[.val (.ref a1), .val (.ref a2), .val (.double d3), .second, .val (.int (2 : Int32)), .val (.double (FP.l2d ((((0 : Int64) + ve3) + ve2) + ve1))), .second] [(.int (lcmpW (((((0 : Int64) + ve3) + ve2) + ve1) + ((((0 : Int64) + ve3) + ve2) + ve1)) kq))])) (fun t k => XS.dcmpS Xh499.here hx rfl (hb hby d4_108) rfl (own_cmpd hd (own_Badd (own_Badd (own_Badd own_B0 hB3 (by decide)) hB2 (by decide)) hB1 (by decide)) (by decide) hk _) k) ?_
            by_cases hc109_500 : (((((0 : Int64) + ve3) + ve2) + ve1) + ((((0 : Int64) + ve3) + ve2) + ve1)) < kq
            · refine own_preJ (B := T498.setTop (mkF m 115 #[.val (.ref a1), .val (.ref a2), .val (.double d3), .second, .val (.int (2 : Int32)), .val (.double (FP.l2d ((((0 : Int64) + ve3) + ve2) + ve1))), .second] [])) (fun t k => XS.ifYes Xh499.here hx rfl (pc0 := 109) (pc' := 115) rfl (hb hby d4_109) rfl ((if0 _ _).trans (tlt ((lw_lt (((((0 : Int64) + ve3) + ve2) + ve1) + ((((0 : Int64) + ve3) + ve2) + ve1)) kq).mpr hc109_500)).1) (by decide) (by decide) k) ?_
              refine own_preJ (B := T498.setTop (mkF m 118 #[.val (.ref a1), .val (.ref a2), .val (.double d3), .second, .val (.int (1 : Int32)), .val (.double (FP.l2d ((((0 : Int64) + ve3) + ve2) + ve1))), .second] [])) (fun t k => XS.iinc Xh499.here hx rfl (hb hby d4_115) rfl (l' := #[.val (.ref a1), .val (.ref a2), .val (.double d3), .second, .val (.int (1 : Int32)), .val (.double (FP.l2d ((((0 : Int64) + ve3) + ve2) + ve1))), .second]) rfl k) ?_
              refine own_preJ (B := T498.setTop (mkF m 68 #[.val (.ref a1), .val (.ref a2), .val (.double d3), .second, .val (.int (1 : Int32)), .val (.double (FP.l2d ((((0 : Int64) + ve3) + ve2) + ve1))), .second] [])) (fun t k => XS.goto Xh499.here hx rfl (pc0 := 118) (pc' := 68) rfl (hb hby d4_118) (by decide) (by decide) k) ?_
              refine own_preJ (B := T498.setTop (mkF m 70 #[.val (.ref a1), .val (.ref a2), .val (.double d3), .second, .val (.int (1 : Int32)), .val (.double (FP.l2d ((((0 : Int64) + ve3) + ve2) + ve1))), .second] [(.int (1 : Int32))])) (fun t k => XS.iload Xh499.here hx rfl (hb hby d4_68) rfl k) ?_
              refine own_preJ (B := T498.setTop (mkF m 73 #[.val (.ref a1), .val (.ref a2), .val (.double d3), .second, .val (.int (1 : Int32)), .val (.double (FP.l2d ((((0 : Int64) + ve3) + ve2) + ve1))), .second] [])) (fun t k => XS.ifNo Xh499.here hx rfl (hb hby d4_70) rfl ((if0 _ _).trans (tlt (by decide : (0 : Int32) < (1 : Int32))).2.2.2) k) ?_
              refine own_preJ (B := T498.setTop (mkF m 74 #[.val (.ref a1), .val (.ref a2), .val (.double d3), .second, .val (.int (1 : Int32)), .val (.double (FP.l2d ((((0 : Int64) + ve3) + ve2) + ve1))), .second] [(.ref a1)])) (fun t k => XS.aloadN Xh499.here hx rfl (hb hby d4_73) rfl rfl k) ?_
              have c501 := (Fld.other W498 c486 (Or.inl nesx0))
              obtain ⟨T502, X502, e502, st502⟩ := getF Xh499 hx hZ hown (host := "") (Or.inl (hw _ (ow 19 rfl))) Via.refl e498 c501 (g := (mkF m 74 #[.val (.ref a1), .val (.ref a2), .val (.double d3), .second, .val (.int (1 : Int32)), .val (.double (FP.l2d ((((0 : Int64) + ve3) + ve2) + ve1))), .second] [(.ref a1)])) rfl rfl (hb hby d4_74)
              refine own_preJ (B := T502.setTop (mkF m 77 #[.val (.ref a1), .val (.ref a2), .val (.double d3), .second, .val (.int (1 : Int32)), .val (.double (FP.l2d ((((0 : Int64) + ve3) + ve2) + ve1))), .second] [(.ref sx)])) (fun t k => st502 t k) ?_
              refine own_preJ (B := T502.setTop (mkF m 79 #[.val (.ref a1), .val (.ref a2), .val (.double d3), .second, .val (.int (1 : Int32)), .val (.double (FP.l2d ((((0 : Int64) + ve3) + ve2) + ve1))), .second] [(.int (1 : Int32)), (.ref sx)])) (fun t k => XS.iload X502.here hx rfl (hb hby d4_77) rfl k) ?_
              obtain ⟨cl503, Ar503, q503, S503, N503v, H503v, G503v⟩ := V498
              have V498 : Arv Z h498 sx kx .double nx [(.double x0), (.double (FP.l2d ((((0 : Int64) + ve3) + ve2) + ve1))), (.double (FP.l2d (((0 : Int64) + ve3) + ve2))), (.double (FP.l2d ((0 : Int64) + ve3))), (.double (FP.l2d (0 : Int64)))] (.double (FP.l2d (0 : Int64))) := ⟨cl503, Ar503, q503, S503, N503v, H503v, G503v⟩
              have hin503 : ¬ ((1 : Int32) < 0 ∨ cl503.slots.size ≤ ((1 : Int32)).toNatClampNeg) := inb_of S503 ⟨by decide, own_ltle hlt (by decide)⟩
              have hat503 : cl503.slots[((1 : Int32)).toNatClampNeg]? = some (.double (FP.l2d ((((0 : Int64) + ve3) + ve2) + ve1))) := H503v.at hin503 rfl
              refine own_preJ (B := T502.setTop (mkF m 80 #[.val (.ref a1), .val (.ref a2), .val (.double d3), .second, .val (.int (1 : Int32)), .val (.double (FP.l2d ((((0 : Int64) + ve3) + ve2) + ve1))), .second] [(.double (FP.l2d ((((0 : Int64) + ve3) + ve2) + ve1)))])) (fun t k => X502.daload hx (j := (1 : Int32)) (v := (.double (FP.l2d ((((0 : Int64) + ve3) + ve2) + ve1)))) (by rw [e502]; exact Ar503.1) (State.isArrayOf_alike hZ.alike Ar503.2.1) Ar503.2.2 hin503 hat503 (g := (mkF m 79 #[.val (.ref a1), .val (.ref a2), .val (.double d3), .second, .val (.int (1 : Int32)), .val (.double (FP.l2d ((((0 : Int64) + ve3) + ve2) + ve1))), .second] [(.int (1 : Int32)), (.ref sx)])) rfl rfl (hb hby d4_79) t k) ?_
              refine own_preJ (B := T502.setTop (mkF m 81 #[.val (.ref a1), .val (.ref a2), .val (.double d3), .second, .val (.int (1 : Int32)), .val (.double (FP.l2d ((((0 : Int64) + ve3) + ve2) + ve1))), .second] [(.ref a1), (.double (FP.l2d ((((0 : Int64) + ve3) + ve2) + ve1)))])) (fun t k => XS.aloadN X502.here hx rfl (hb hby d4_80) rfl rfl k) ?_
              have c504 := (Fld.other W498 c489 (Or.inl nesx0))
              obtain ⟨T505, X505, e505, st505⟩ := getF X502 hx hZ hown (host := "") (Or.inl (hw _ (ow 25 rfl))) Via.refl e502 c504 (g := (mkF m 81 #[.val (.ref a1), .val (.ref a2), .val (.double d3), .second, .val (.int (1 : Int32)), .val (.double (FP.l2d ((((0 : Int64) + ve3) + ve2) + ve1))), .second] [(.ref a1), (.double (FP.l2d ((((0 : Int64) + ve3) + ve2) + ve1)))])) rfl rfl (hb hby d4_81)
              refine own_preJ (B := T505.setTop (mkF m 84 #[.val (.ref a1), .val (.ref a2), .val (.double d3), .second, .val (.int (1 : Int32)), .val (.double (FP.l2d ((((0 : Int64) + ve3) + ve2) + ve1))), .second] [(.ref w_weights_a1), (.double (FP.l2d ((((0 : Int64) + ve3) + ve2) + ve1)))])) (fun t k => st505 t k) ?_
              refine own_preJ (B := T505.setTop (mkF m 85 #[.val (.ref a1), .val (.ref a2), .val (.double d3), .second, .val (.int (1 : Int32)), .val (.double (FP.l2d ((((0 : Int64) + ve3) + ve2) + ve1))), .second] [(.ref a2), (.ref w_weights_a1), (.double (FP.l2d ((((0 : Int64) + ve3) + ve2) + ve1)))])) (fun t k => XS.aloadN X505.here hx rfl (hb hby d4_84) rfl rfl k) ?_
              refine own_preJ (B := T505.setTop (mkF m 87 #[.val (.ref a1), .val (.ref a2), .val (.double d3), .second, .val (.int (1 : Int32)), .val (.double (FP.l2d ((((0 : Int64) + ve3) + ve2) + ve1))), .second] [(.int (1 : Int32)), (.ref a2), (.ref w_weights_a1), (.double (FP.l2d ((((0 : Int64) + ve3) + ve2) + ve1)))])) (fun t k => XS.iload X505.here hx rfl (hb hby d4_85) rfl k) ?_
              refine own_preJ (B := T505.setTop (mkF m 88 #[.val (.ref a1), .val (.ref a2), .val (.double d3), .second, .val (.int (1 : Int32)), .val (.double (FP.l2d ((((0 : Int64) + ve3) + ve2) + ve1))), .second] [(.int (1 : Int32)), (.int (1 : Int32)), (.ref a2), (.ref w_weights_a1), (.double (FP.l2d ((((0 : Int64) + ve3) + ve2) + ve1)))])) (fun t k => XS.iconst X505.here hx rfl (hb hby d4_87) k) ?_
              refine own_preJ (B := T505.setTop (mkF m 89 #[.val (.ref a1), .val (.ref a2), .val (.double d3), .second, .val (.int (1 : Int32)), .val (.double (FP.l2d ((((0 : Int64) + ve3) + ve2) + ve1))), .second] [(.int (0 : Int32)), (.ref a2), (.ref w_weights_a1), (.double (FP.l2d ((((0 : Int64) + ve3) + ve2) + ve1)))])) (fun t k => XS.isub X505.here hx rfl (hb hby d4_88) rfl k) ?_
              have c506 := (Arv.other c491 W498 nesx2)
              obtain ⟨cl507, Ar507, q507, S507, N507v, H507v, G507v⟩ := c506
              have c506 : Arv Z h498 a2 k_a2 .int (4 : Int32) [(.int r0), (.int r1), (.int r2), (.int r3)] (.int (0 : Int32)) := ⟨cl507, Ar507, q507, S507, N507v, H507v, G507v⟩
              have hin507 : ¬ ((0 : Int32) < 0 ∨ cl507.slots.size ≤ ((0 : Int32)).toNatClampNeg) := inb_of S507 ⟨by decide, by decide⟩
              have hat507 : cl507.slots[((0 : Int32)).toNatClampNeg]? = some (.int r0) := H507v.at hin507 rfl
              refine own_preJ (B := T505.setTop (mkF m 90 #[.val (.ref a1), .val (.ref a2), .val (.double d3), .second, .val (.int (1 : Int32)), .val (.double (FP.l2d ((((0 : Int64) + ve3) + ve2) + ve1))), .second] [(.int r0), (.ref w_weights_a1), (.double (FP.l2d ((((0 : Int64) + ve3) + ve2) + ve1)))])) (fun t k => X505.iaload hx (j := (0 : Int32)) (v := (.int r0)) (by rw [e505]; exact Ar507.1) (State.isArrayOf_alike hZ.alike Ar507.2.1) Ar507.2.2 hin507 hat507 (g := (mkF m 89 #[.val (.ref a1), .val (.ref a2), .val (.double d3), .second, .val (.int (1 : Int32)), .val (.double (FP.l2d ((((0 : Int64) + ve3) + ve2) + ve1))), .second] [(.int (0 : Int32)), (.ref a2), (.ref w_weights_a1), (.double (FP.l2d ((((0 : Int64) + ve3) + ve2) + ve1)))])) rfl rfl (hb hby d4_89) t k) ?_
              have c508 := (Arv.other c493 W498 nesx1)
              obtain ⟨cl509, Ar509, q509, S509, N509v, H509v, G509v⟩ := c508
              have c508 : Arv Z h498 w_weights_a1 k_w_weights_a1 .double (8 : Int32) [(.double (FP.l2d w0)), (.double (FP.l2d w1)), (.double (FP.l2d w2)), (.double (FP.l2d w3)), (.double (FP.l2d w4)), (.double (FP.l2d w5)), (.double (FP.l2d w6)), (.double (FP.l2d w7))] (.double (FP.l2d (0 : Int64))) := ⟨cl509, Ar509, q509, S509, N509v, H509v, G509v⟩
              have hin509 : ¬ (r0 < 0 ∨ cl509.slots.size ≤ (r0).toNatClampNeg) := inb_of S509 hR0
              have hat509 : cl509.slots[(r0).toNatClampNeg]? = some (.double (FP.l2d ve0)) := H509v.at hin509 (own_getE hR0 hE0)
              refine own_preJ (B := T505.setTop (mkF m 91 #[.val (.ref a1), .val (.ref a2), .val (.double d3), .second, .val (.int (1 : Int32)), .val (.double (FP.l2d ((((0 : Int64) + ve3) + ve2) + ve1))), .second] [(.double (FP.l2d ve0)), (.double (FP.l2d ((((0 : Int64) + ve3) + ve2) + ve1)))])) (fun t k => X505.daload hx (j := r0) (v := (.double (FP.l2d ve0))) (by rw [e505]; exact Ar509.1) (State.isArrayOf_alike hZ.alike Ar509.2.1) Ar509.2.2 hin509 hat509 (g := (mkF m 90 #[.val (.ref a1), .val (.ref a2), .val (.double d3), .second, .val (.int (1 : Int32)), .val (.double (FP.l2d ((((0 : Int64) + ve3) + ve2) + ve1))), .second] [(.int r0), (.ref w_weights_a1), (.double (FP.l2d ((((0 : Int64) + ve3) + ve2) + ve1)))])) rfl rfl (hb hby d4_90) t k) ?_
              refine own_preJ (B := T505.setTop (mkF m 92 #[.val (.ref a1), .val (.ref a2), .val (.double d3), .second, .val (.int (1 : Int32)), .val (.double (FP.l2d ((((0 : Int64) + ve3) + ve2) + ve1))), .second] [(.double (FP.l2d (((((0 : Int64) + ve3) + ve2) + ve1) + ve0)))])) (fun t k => XS.daddS X505.here hx rfl (hb hby d4_91) rfl (nn_w (own_add (own_Badd (own_Badd (own_Badd own_B0 hB3 (by decide)) hB2 (by decide)) hB1 (by decide)) hB0 (by decide))) (own_add (own_Badd (own_Badd (own_Badd own_B0 hB3 (by decide)) hB2 (by decide)) hB1 (by decide)) hB0 (by decide)) k) ?_
              refine own_preJ (B := T505.setTop (mkF m 94 #[.val (.ref a1), .val (.ref a2), .val (.double d3), .second, .val (.int (1 : Int32)), .val (.double (FP.l2d (((((0 : Int64) + ve3) + ve2) + ve1) + ve0))), .second] [])) (fun t k => XS.dstore X505.here hx rfl (hb hby d4_92) rfl (l' := #[.val (.ref a1), .val (.ref a2), .val (.double d3), .second, .val (.int (1 : Int32)), .val (.double (FP.l2d (((((0 : Int64) + ve3) + ve2) + ve1) + ve0))), .second]) rfl k) ?_
              refine own_preJ (B := T505.setTop (mkF m 95 #[.val (.ref a1), .val (.ref a2), .val (.double d3), .second, .val (.int (1 : Int32)), .val (.double (FP.l2d (((((0 : Int64) + ve3) + ve2) + ve1) + ve0))), .second] [(.ref a1)])) (fun t k => XS.aloadN X505.here hx rfl (hb hby d4_94) rfl rfl k) ?_
              obtain ⟨T510, X510, e510, st510⟩ := getF X505 hx hZ hown (host := "") (Or.inl (hw _ (ow 19 rfl))) Via.refl e505 c501 (g := (mkF m 95 #[.val (.ref a1), .val (.ref a2), .val (.double d3), .second, .val (.int (1 : Int32)), .val (.double (FP.l2d (((((0 : Int64) + ve3) + ve2) + ve1) + ve0))), .second] [(.ref a1)])) rfl rfl (hb hby d4_95)
              refine own_preJ (B := T510.setTop (mkF m 98 #[.val (.ref a1), .val (.ref a2), .val (.double d3), .second, .val (.int (1 : Int32)), .val (.double (FP.l2d (((((0 : Int64) + ve3) + ve2) + ve1) + ve0))), .second] [(.ref sx)])) (fun t k => st510 t k) ?_
              refine own_preJ (B := T510.setTop (mkF m 100 #[.val (.ref a1), .val (.ref a2), .val (.double d3), .second, .val (.int (1 : Int32)), .val (.double (FP.l2d (((((0 : Int64) + ve3) + ve2) + ve1) + ve0))), .second] [(.int (1 : Int32)), (.ref sx)])) (fun t k => XS.iload X510.here hx rfl (hb hby d4_98) rfl k) ?_
              refine own_preJ (B := T510.setTop (mkF m 101 #[.val (.ref a1), .val (.ref a2), .val (.double d3), .second, .val (.int (1 : Int32)), .val (.double (FP.l2d (((((0 : Int64) + ve3) + ve2) + ve1) + ve0))), .second] [(.int (1 : Int32)), (.int (1 : Int32)), (.ref sx)])) (fun t k => XS.iconst X510.here hx rfl (hb hby d4_100) k) ?_
              refine own_preJ (B := T510.setTop (mkF m 102 #[.val (.ref a1), .val (.ref a2), .val (.double d3), .second, .val (.int (1 : Int32)), .val (.double (FP.l2d (((((0 : Int64) + ve3) + ve2) + ve1) + ve0))), .second] [(.int (0 : Int32)), (.ref sx)])) (fun t k => XS.isub X510.here hx rfl (hb hby d4_101) rfl k) ?_
              refine own_preJ (B := T510.setTop (mkF m 104 #[.val (.ref a1), .val (.ref a2), .val (.double d3), .second, .val (.int (1 : Int32)), .val (.double (FP.l2d (((((0 : Int64) + ve3) + ve2) + ve1) + ve0))), .second] [(.double (FP.l2d (((((0 : Int64) + ve3) + ve2) + ve1) + ve0))), (.int (0 : Int32)), (.ref sx)])) (fun t k => XS.dload X510.here hx rfl (hb hby d4_102) rfl k) ?_
              have K511 : Keep h0 h498 [a1, w_suffix_a1] := (Keep.wr K496 W498 msx)
              obtain ⟨cl512, Ar512, q512, S512, N512v, H512v, G512v⟩ := V498
              have V498 : Arv Z h498 sx kx .double nx [(.double x0), (.double (FP.l2d ((((0 : Int64) + ve3) + ve2) + ve1))), (.double (FP.l2d (((0 : Int64) + ve3) + ve2))), (.double (FP.l2d ((0 : Int64) + ve3))), (.double (FP.l2d (0 : Int64)))] (.double (FP.l2d (0 : Int64))) := ⟨cl512, Ar512, q512, S512, N512v, H512v, G512v⟩
              have hin512 : ¬ ((0 : Int32) < 0 ∨ cl512.slots.size ≤ ((0 : Int32)).toNatClampNeg) := inb_of S512 ⟨by decide, own_ltle hlt (by decide)⟩
              obtain ⟨T513, h513, X513, e513, W513, st513⟩ := stD X510 hx hZ e510 Ar512 (j := (0 : Int32)) hin512 (g := (mkF m 104 #[.val (.ref a1), .val (.ref a2), .val (.double d3), .second, .val (.int (1 : Int32)), .val (.double (FP.l2d (((((0 : Int64) + ve3) + ve2) + ve1) + ve0))), .second] [(.double (FP.l2d (((((0 : Int64) + ve3) + ve2) + ve1) + ve0))), (.int (0 : Int32)), (.ref sx)])) rfl rfl (hb hby d4_104)
              have V513 : Arv Z h513 sx kx .double nx [(.double (FP.l2d (((((0 : Int64) + ve3) + ve2) + ve1) + ve0))), (.double (FP.l2d ((((0 : Int64) + ve3) + ve2) + ve1))), (.double (FP.l2d (((0 : Int64) + ve3) + ve2))), (.double (FP.l2d ((0 : Int64) + ve3))), (.double (FP.l2d (0 : Int64)))] (.double (FP.l2d (0 : Int64))) := Arv.set Ar512 q512 S512 N512v H512v G512v rfl W513 0 rfl (Nat.le_of_ble_eq_true rfl)
              have N513 := Fr.snoc X513 Nh499 gsx
              obtain ⟨Lh514, Xh514, Nh514⟩ := own_hide X513 N513
              refine own_preJ (B := T513.setTop (mkF m 105 #[.val (.ref a1), .val (.ref a2), .val (.double d3), .second, .val (.int (1 : Int32)), .val (.double (FP.l2d (((((0 : Int64) + ve3) + ve2) + ve1) + ve0))), .second] [])) (fun t k => st513 t k) ?_
              refine own_preJ (B := T513.setTop (mkF m 107 #[.val (.ref a1), .val (.ref a2), .val (.double d3), .second, .val (.int (1 : Int32)), .val (.double (FP.l2d (((((0 : Int64) + ve3) + ve2) + ve1) + ve0))), .second] [(.double (FP.l2d (((((0 : Int64) + ve3) + ve2) + ve1) + ve0)))])) (fun t k => XS.dload Xh514.here hx rfl (hb hby d4_105) rfl k) ?_
              refine own_preJ (B := T513.setTop (mkF m 108 #[.val (.ref a1), .val (.ref a2), .val (.double d3), .second, .val (.int (1 : Int32)), .val (.double (FP.l2d (((((0 : Int64) + ve3) + ve2) + ve1) + ve0))), .second] [(.double d3), (.double (FP.l2d (((((0 : Int64) + ve3) + ve2) + ve1) + ve0)))])) (fun t k => XS.dloadN Xh514.here hx rfl (hb hby d4_107) rfl k) ?_
              refine own_preJ (B := T513.setTop (mkF m 109 #[.val (.ref a1), .val (.ref a2), .val (.double d3), .second, .val (.int (1 : Int32)), .val (.double (FP.l2d (((((0 : Int64) + ve3) + ve2) + ve1) + ve0))), .second] [(.int (lcmpW ((((((0 : Int64) + ve3) + ve2) + ve1) + ve0) + (((((0 : Int64) + ve3) + ve2) + ve1) + ve0)) kq))])) (fun t k => XS.dcmpS Xh514.here hx rfl (hb hby d4_108) rfl (own_cmpd hd (own_Badd (own_Badd (own_Badd (own_Badd own_B0 hB3 (by decide)) hB2 (by decide)) hB1 (by decide)) hB0 (by decide)) (by decide) hk _) k) ?_
              by_cases hc109_515 : ((((((0 : Int64) + ve3) + ve2) + ve1) + ve0) + (((((0 : Int64) + ve3) + ve2) + ve1) + ve0)) < kq
              · refine own_preJ (B := T513.setTop (mkF m 115 #[.val (.ref a1), .val (.ref a2), .val (.double d3), .second, .val (.int (1 : Int32)), .val (.double (FP.l2d (((((0 : Int64) + ve3) + ve2) + ve1) + ve0))), .second] [])) (fun t k => XS.ifYes Xh514.here hx rfl (pc0 := 109) (pc' := 115) rfl (hb hby d4_109) rfl ((if0 _ _).trans (tlt ((lw_lt ((((((0 : Int64) + ve3) + ve2) + ve1) + ve0) + (((((0 : Int64) + ve3) + ve2) + ve1) + ve0)) kq).mpr hc109_515)).1) (by decide) (by decide) k) ?_
                refine own_preJ (B := T513.setTop (mkF m 118 #[.val (.ref a1), .val (.ref a2), .val (.double d3), .second, .val (.int (0 : Int32)), .val (.double (FP.l2d (((((0 : Int64) + ve3) + ve2) + ve1) + ve0))), .second] [])) (fun t k => XS.iinc Xh514.here hx rfl (hb hby d4_115) rfl (l' := #[.val (.ref a1), .val (.ref a2), .val (.double d3), .second, .val (.int (0 : Int32)), .val (.double (FP.l2d (((((0 : Int64) + ve3) + ve2) + ve1) + ve0))), .second]) rfl k) ?_
                refine own_preJ (B := T513.setTop (mkF m 68 #[.val (.ref a1), .val (.ref a2), .val (.double d3), .second, .val (.int (0 : Int32)), .val (.double (FP.l2d (((((0 : Int64) + ve3) + ve2) + ve1) + ve0))), .second] [])) (fun t k => XS.goto Xh514.here hx rfl (pc0 := 118) (pc' := 68) rfl (hb hby d4_118) (by decide) (by decide) k) ?_
                refine own_preJ (B := T513.setTop (mkF m 70 #[.val (.ref a1), .val (.ref a2), .val (.double d3), .second, .val (.int (0 : Int32)), .val (.double (FP.l2d (((((0 : Int64) + ve3) + ve2) + ve1) + ve0))), .second] [(.int (0 : Int32))])) (fun t k => XS.iload Xh514.here hx rfl (hb hby d4_68) rfl k) ?_
                refine own_preJ (B := T513.setTop (mkF m 121 #[.val (.ref a1), .val (.ref a2), .val (.double d3), .second, .val (.int (0 : Int32)), .val (.double (FP.l2d (((((0 : Int64) + ve3) + ve2) + ve1) + ve0))), .second] [])) (fun t k => XS.ifYes Xh514.here hx rfl (pc0 := 70) (pc' := 121) rfl (hb hby d4_70) rfl ((if0 _ _).trans (flt (by decide : ¬ ((0 : Int32) < (0 : Int32)))).2.2.2) (by decide) (by decide) k) ?_
                rw [if_pos hc65_456, if_pos hc109_470, if_pos hc109_485, if_pos hc109_500, if_pos hc109_515] at hz447
                subst hz447
                rw [if_pos hc65_456, if_pos hc109_470, if_pos hc109_485, if_pos hc109_500, if_pos hc109_515] at hz450
                subst hz450
                rw [if_pos hc65_456, if_pos hc109_470, if_pos hc109_485, if_pos hc109_500, if_pos hc109_515] at hz451
                subst hz451
                rw [if_pos hc65_456, if_pos hc109_470, if_pos hc109_485, if_pos hc109_500, if_pos hc109_515] at hz452
                subst hz452
                rw [if_pos hc65_456, if_pos hc109_470, if_pos hc109_485, if_pos hc109_500, if_pos hc109_515] at hz453
                subst hz453
                have K516 : Keep h0 h513 [a1, w_suffix_a1] := (Keep.wr K511 W513 msx)
                have c517 := (Exa.wr W513 (Exa.wr W498 (Exa.wr W483 (Exa.wr W468 (Exa.wr W445 j28_0)))))
                have c518 := (Fld.other W513 (Fld.other W498 (Fld.other W483 (Fld.other W468 (Fld.other W445 j28_1 (Or.inl nesx0)) (Or.inl nesx0)) (Or.inl nesx0)) (Or.inl nesx0)) (Or.inl nesx0))
                have c519 := (Fld.other W513 (Fld.other W498 (Fld.other W483 (Fld.other W468 (Fld.other W445 j28_2 (Or.inl nesx0)) (Or.inl nesx0)) (Or.inl nesx0)) (Or.inl nesx0)) (Or.inl nesx0))
                have c520 := (Fld.other W513 (Fld.other W498 (Fld.other W483 (Fld.other W468 (Fld.other W445 j28_3 (Or.inl nesx0)) (Or.inl nesx0)) (Or.inl nesx0)) (Or.inl nesx0)) (Or.inl nesx0))
                have c521 := (Fld.other W513 (Fld.other W498 (Fld.other W483 (Fld.other W468 (Fld.other W445 j28_4 (Or.inl nesx0)) (Or.inl nesx0)) (Or.inl nesx0)) (Or.inl nesx0)) (Or.inl nesx0))
                have c522 := (Fld.other W513 c504 (Or.inl nesx0))
                have c523 := (Fld.other W513 (Fld.other W498 (Fld.other W483 (Fld.other W468 (Fld.other W445 j28_6 (Or.inl nesx0)) (Or.inl nesx0)) (Or.inl nesx0)) (Or.inl nesx0)) (Or.inl nesx0))
                have c524 := (Fld.other W513 (Fld.other W498 (Fld.other W483 (Fld.other W468 (Fld.other W445 j28_7 (Or.inl nesx0)) (Or.inl nesx0)) (Or.inl nesx0)) (Or.inl nesx0)) (Or.inl nesx0))
                have c525 := (Fld.other W513 c501 (Or.inl nesx0))
                have c526 := (Arv.other c508 W513 nesx1)
                have c527 := (Arv.other c506 W513 nesx2)
                exact ⟨_, ⟨_, _, _, (.val (.double (FP.l2d (((((0 : Int64) + ve3) + ve2) + ve1) + ve0)))), .second, rfl, own_more Xh514 (by decide) (by decide), e513, Nh514, K516, c517, c518, c519, c520, c521, c522, c523, c524, c525, c526, c527, V513⟩, fun t k => k⟩
              · refine own_preJ (B := T513.setTop (mkF m 112 #[.val (.ref a1), .val (.ref a2), .val (.double d3), .second, .val (.int (1 : Int32)), .val (.double (FP.l2d (((((0 : Int64) + ve3) + ve2) + ve1) + ve0))), .second] [])) (fun t k => XS.ifNo Xh514.here hx rfl (hb hby d4_109) rfl ((if0 _ _).trans (flt (mt (lw_lt ((((((0 : Int64) + ve3) + ve2) + ve1) + ve0) + (((((0 : Int64) + ve3) + ve2) + ve1) + ve0)) kq).mp hc109_515)).1) k) ?_
                refine own_preJ (B := T513.setTop (mkF m 121 #[.val (.ref a1), .val (.ref a2), .val (.double d3), .second, .val (.int (1 : Int32)), .val (.double (FP.l2d (((((0 : Int64) + ve3) + ve2) + ve1) + ve0))), .second] [])) (fun t k => XS.goto Xh514.here hx rfl (pc0 := 112) (pc' := 121) rfl (hb hby d4_112) (by decide) (by decide) k) ?_
                rw [if_pos hc65_456, if_pos hc109_470, if_pos hc109_485, if_pos hc109_500, if_neg hc109_515] at hz447
                subst hz447
                rw [if_pos hc65_456, if_pos hc109_470, if_pos hc109_485, if_pos hc109_500, if_neg hc109_515] at hz450
                subst hz450
                rw [if_pos hc65_456, if_pos hc109_470, if_pos hc109_485, if_pos hc109_500, if_neg hc109_515] at hz451
                subst hz451
                rw [if_pos hc65_456, if_pos hc109_470, if_pos hc109_485, if_pos hc109_500, if_neg hc109_515] at hz452
                subst hz452
                rw [if_pos hc65_456, if_pos hc109_470, if_pos hc109_485, if_pos hc109_500, if_neg hc109_515] at hz453
                subst hz453
                have K528 : Keep h0 h513 [a1, w_suffix_a1] := (Keep.wr K511 W513 msx)
                have c529 := (Exa.wr W513 (Exa.wr W498 (Exa.wr W483 (Exa.wr W468 (Exa.wr W445 j28_0)))))
                have c530 := (Fld.other W513 (Fld.other W498 (Fld.other W483 (Fld.other W468 (Fld.other W445 j28_1 (Or.inl nesx0)) (Or.inl nesx0)) (Or.inl nesx0)) (Or.inl nesx0)) (Or.inl nesx0))
                have c531 := (Fld.other W513 (Fld.other W498 (Fld.other W483 (Fld.other W468 (Fld.other W445 j28_2 (Or.inl nesx0)) (Or.inl nesx0)) (Or.inl nesx0)) (Or.inl nesx0)) (Or.inl nesx0))
                have c532 := (Fld.other W513 (Fld.other W498 (Fld.other W483 (Fld.other W468 (Fld.other W445 j28_3 (Or.inl nesx0)) (Or.inl nesx0)) (Or.inl nesx0)) (Or.inl nesx0)) (Or.inl nesx0))
                have c533 := (Fld.other W513 (Fld.other W498 (Fld.other W483 (Fld.other W468 (Fld.other W445 j28_4 (Or.inl nesx0)) (Or.inl nesx0)) (Or.inl nesx0)) (Or.inl nesx0)) (Or.inl nesx0))
                have c534 := (Fld.other W513 c504 (Or.inl nesx0))
                have c535 := (Fld.other W513 (Fld.other W498 (Fld.other W483 (Fld.other W468 (Fld.other W445 j28_6 (Or.inl nesx0)) (Or.inl nesx0)) (Or.inl nesx0)) (Or.inl nesx0)) (Or.inl nesx0))
                have c536 := (Fld.other W513 (Fld.other W498 (Fld.other W483 (Fld.other W468 (Fld.other W445 j28_7 (Or.inl nesx0)) (Or.inl nesx0)) (Or.inl nesx0)) (Or.inl nesx0)) (Or.inl nesx0))
                have c537 := (Fld.other W513 c501 (Or.inl nesx0))
                have c538 := (Arv.other c508 W513 nesx1)
                have c539 := (Arv.other c506 W513 nesx2)
                exact ⟨_, ⟨_, _, _, (.val (.double (FP.l2d (((((0 : Int64) + ve3) + ve2) + ve1) + ve0)))), .second, rfl, own_more Xh514 (by decide) (by decide), e513, Nh514, K528, c529, c530, c531, c532, c533, c534, c535, c536, c537, c538, c539, V513⟩, fun t k => k⟩
            · refine own_preJ (B := T498.setTop (mkF m 112 #[.val (.ref a1), .val (.ref a2), .val (.double d3), .second, .val (.int (2 : Int32)), .val (.double (FP.l2d ((((0 : Int64) + ve3) + ve2) + ve1))), .second] [])) (fun t k => XS.ifNo Xh499.here hx rfl (hb hby d4_109) rfl ((if0 _ _).trans (flt (mt (lw_lt (((((0 : Int64) + ve3) + ve2) + ve1) + ((((0 : Int64) + ve3) + ve2) + ve1)) kq).mp hc109_500)).1) k) ?_
              refine own_preJ (B := T498.setTop (mkF m 121 #[.val (.ref a1), .val (.ref a2), .val (.double d3), .second, .val (.int (2 : Int32)), .val (.double (FP.l2d ((((0 : Int64) + ve3) + ve2) + ve1))), .second] [])) (fun t k => XS.goto Xh499.here hx rfl (pc0 := 112) (pc' := 121) rfl (hb hby d4_112) (by decide) (by decide) k) ?_
              rw [if_pos hc65_456, if_pos hc109_470, if_pos hc109_485, if_neg hc109_500] at hz447
              subst hz447
              rw [if_pos hc65_456, if_pos hc109_470, if_pos hc109_485, if_neg hc109_500] at hz450
              subst hz450
              rw [if_pos hc65_456, if_pos hc109_470, if_pos hc109_485, if_neg hc109_500] at hz451
              subst hz451
              rw [if_pos hc65_456, if_pos hc109_470, if_pos hc109_485, if_neg hc109_500] at hz452
              subst hz452
              rw [if_pos hc65_456, if_pos hc109_470, if_pos hc109_485, if_neg hc109_500] at hz453
              subst hz453
              have K540 : Keep h0 h498 [a1, w_suffix_a1] := (Keep.wr K496 W498 msx)
              have c541 := (Exa.wr W498 (Exa.wr W483 (Exa.wr W468 (Exa.wr W445 j28_0))))
              have c542 := (Fld.other W498 (Fld.other W483 (Fld.other W468 (Fld.other W445 j28_1 (Or.inl nesx0)) (Or.inl nesx0)) (Or.inl nesx0)) (Or.inl nesx0))
              have c543 := (Fld.other W498 (Fld.other W483 (Fld.other W468 (Fld.other W445 j28_2 (Or.inl nesx0)) (Or.inl nesx0)) (Or.inl nesx0)) (Or.inl nesx0))
              have c544 := (Fld.other W498 (Fld.other W483 (Fld.other W468 (Fld.other W445 j28_3 (Or.inl nesx0)) (Or.inl nesx0)) (Or.inl nesx0)) (Or.inl nesx0))
              have c545 := (Fld.other W498 (Fld.other W483 (Fld.other W468 (Fld.other W445 j28_4 (Or.inl nesx0)) (Or.inl nesx0)) (Or.inl nesx0)) (Or.inl nesx0))
              have c546 := (Fld.other W498 c489 (Or.inl nesx0))
              have c547 := (Fld.other W498 (Fld.other W483 (Fld.other W468 (Fld.other W445 j28_6 (Or.inl nesx0)) (Or.inl nesx0)) (Or.inl nesx0)) (Or.inl nesx0))
              have c548 := (Fld.other W498 (Fld.other W483 (Fld.other W468 (Fld.other W445 j28_7 (Or.inl nesx0)) (Or.inl nesx0)) (Or.inl nesx0)) (Or.inl nesx0))
              have c549 := (Fld.other W498 c486 (Or.inl nesx0))
              have c550 := (Arv.other c493 W498 nesx1)
              have c551 := (Arv.other c491 W498 nesx2)
              exact ⟨_, ⟨_, _, _, (.val (.double (FP.l2d ((((0 : Int64) + ve3) + ve2) + ve1)))), .second, rfl, own_more Xh499 (by decide) (by decide), e498, Nh499, K540, c541, c542, c543, c544, c545, c546, c547, c548, c549, c550, c551, V498⟩, fun t k => k⟩
          · refine own_preJ (B := T483.setTop (mkF m 112 #[.val (.ref a1), .val (.ref a2), .val (.double d3), .second, .val (.int (3 : Int32)), .val (.double (FP.l2d (((0 : Int64) + ve3) + ve2))), .second] [])) (fun t k => XS.ifNo Xh484.here hx rfl (hb hby d4_109) rfl ((if0 _ _).trans (flt (mt (lw_lt ((((0 : Int64) + ve3) + ve2) + (((0 : Int64) + ve3) + ve2)) kq).mp hc109_485)).1) k) ?_
            refine own_preJ (B := T483.setTop (mkF m 121 #[.val (.ref a1), .val (.ref a2), .val (.double d3), .second, .val (.int (3 : Int32)), .val (.double (FP.l2d (((0 : Int64) + ve3) + ve2))), .second] [])) (fun t k => XS.goto Xh484.here hx rfl (pc0 := 112) (pc' := 121) rfl (hb hby d4_112) (by decide) (by decide) k) ?_
            rw [if_pos hc65_456, if_pos hc109_470, if_neg hc109_485] at hz447
            subst hz447
            rw [if_pos hc65_456, if_pos hc109_470, if_neg hc109_485] at hz450
            subst hz450
            rw [if_pos hc65_456, if_pos hc109_470, if_neg hc109_485] at hz451
            subst hz451
            rw [if_pos hc65_456, if_pos hc109_470, if_neg hc109_485] at hz452
            subst hz452
            rw [if_pos hc65_456, if_pos hc109_470, if_neg hc109_485] at hz453
            subst hz453
            have K552 : Keep h0 h483 [a1, w_suffix_a1] := (Keep.wr K481 W483 msx)
            have c553 := (Exa.wr W483 (Exa.wr W468 (Exa.wr W445 j28_0)))
            have c554 := (Fld.other W483 (Fld.other W468 (Fld.other W445 j28_1 (Or.inl nesx0)) (Or.inl nesx0)) (Or.inl nesx0))
            have c555 := (Fld.other W483 (Fld.other W468 (Fld.other W445 j28_2 (Or.inl nesx0)) (Or.inl nesx0)) (Or.inl nesx0))
            have c556 := (Fld.other W483 (Fld.other W468 (Fld.other W445 j28_3 (Or.inl nesx0)) (Or.inl nesx0)) (Or.inl nesx0))
            have c557 := (Fld.other W483 (Fld.other W468 (Fld.other W445 j28_4 (Or.inl nesx0)) (Or.inl nesx0)) (Or.inl nesx0))
            have c558 := (Fld.other W483 c474 (Or.inl nesx0))
            have c559 := (Fld.other W483 (Fld.other W468 (Fld.other W445 j28_6 (Or.inl nesx0)) (Or.inl nesx0)) (Or.inl nesx0))
            have c560 := (Fld.other W483 (Fld.other W468 (Fld.other W445 j28_7 (Or.inl nesx0)) (Or.inl nesx0)) (Or.inl nesx0))
            have c561 := (Fld.other W483 c471 (Or.inl nesx0))
            have c562 := (Arv.other c478 W483 nesx1)
            have c563 := (Arv.other c476 W483 nesx2)
            exact ⟨_, ⟨_, _, _, (.val (.double (FP.l2d (((0 : Int64) + ve3) + ve2)))), .second, rfl, own_more Xh484 (by decide) (by decide), e483, Nh484, K552, c553, c554, c555, c556, c557, c558, c559, c560, c561, c562, c563, V483⟩, fun t k => k⟩
        · refine own_preJ (B := T468.setTop (mkF m 112 #[.val (.ref a1), .val (.ref a2), .val (.double d3), .second, .val (.int (4 : Int32)), .val (.double (FP.l2d ((0 : Int64) + ve3))), .second] [])) (fun t k => XS.ifNo Xh469.here hx rfl (hb hby d4_109) rfl ((if0 _ _).trans (flt (mt (lw_lt (((0 : Int64) + ve3) + ((0 : Int64) + ve3)) kq).mp hc109_470)).1) k) ?_
          refine own_preJ (B := T468.setTop (mkF m 121 #[.val (.ref a1), .val (.ref a2), .val (.double d3), .second, .val (.int (4 : Int32)), .val (.double (FP.l2d ((0 : Int64) + ve3))), .second] [])) (fun t k => XS.goto Xh469.here hx rfl (pc0 := 112) (pc' := 121) rfl (hb hby d4_112) (by decide) (by decide) k) ?_
          rw [if_pos hc65_456, if_neg hc109_470] at hz447
          subst hz447
          rw [if_pos hc65_456, if_neg hc109_470] at hz450
          subst hz450
          rw [if_pos hc65_456, if_neg hc109_470] at hz451
          subst hz451
          rw [if_pos hc65_456, if_neg hc109_470] at hz452
          subst hz452
          rw [if_pos hc65_456, if_neg hc109_470] at hz453
          subst hz453
          have K564 : Keep h0 h468 [a1, w_suffix_a1] := (Keep.wr K455 W468 msx)
          have c565 := (Exa.wr W468 (Exa.wr W445 j28_0))
          have c566 := (Fld.other W468 (Fld.other W445 j28_1 (Or.inl nesx0)) (Or.inl nesx0))
          have c567 := (Fld.other W468 (Fld.other W445 j28_2 (Or.inl nesx0)) (Or.inl nesx0))
          have c568 := (Fld.other W468 (Fld.other W445 j28_3 (Or.inl nesx0)) (Or.inl nesx0))
          have c569 := (Fld.other W468 (Fld.other W445 j28_4 (Or.inl nesx0)) (Or.inl nesx0))
          have c570 := (Fld.other W468 c460 (Or.inl nesx0))
          have c571 := (Fld.other W468 (Fld.other W445 j28_6 (Or.inl nesx0)) (Or.inl nesx0))
          have c572 := (Fld.other W468 (Fld.other W445 j28_7 (Or.inl nesx0)) (Or.inl nesx0))
          have c573 := (Fld.other W468 c457 (Or.inl nesx0))
          have c574 := (Arv.other c464 W468 nesx1)
          have c575 := (Arv.other c462 W468 nesx2)
          exact ⟨_, ⟨_, _, _, (.val (.double (FP.l2d ((0 : Int64) + ve3)))), .second, rfl, own_more Xh469 (by decide) (by decide), e468, Nh469, K564, c565, c566, c567, c568, c569, c570, c571, c572, c573, c574, c575, V468⟩, fun t k => k⟩
      · refine own_preJ (B := T445.setTop (mkF m 121 #[.val (.ref a1), .val (.ref a2), .val (.double d3), .second, .val (.int (4 : Int32)), .unset, .unset] [])) (fun t k => XS.ifYes Xh446.here hx rfl (pc0 := 65) (pc' := 121) rfl (hb hby d4_65) rfl ((if0 _ _).trans (flt (mt (lw_gt kq (0 : Int64)).mp hc65_456)).2.2.2) (by decide) (by decide) k) ?_
        rw [if_neg hc65_456] at hz447
        subst hz447
        rw [if_neg hc65_456] at hz450
        subst hz450
        rw [if_neg hc65_456] at hz451
        subst hz451
        rw [if_neg hc65_456] at hz452
        subst hz452
        rw [if_neg hc65_456] at hz453
        subst hz453
        have c576 := (Exa.wr W445 j28_0)
        have c577 := (Fld.other W445 j28_1 (Or.inl nesx0))
        have c578 := (Fld.other W445 j28_2 (Or.inl nesx0))
        have c579 := (Fld.other W445 j28_3 (Or.inl nesx0))
        have c580 := (Fld.other W445 j28_4 (Or.inl nesx0))
        have c581 := (Fld.other W445 j28_5 (Or.inl nesx0))
        have c582 := (Fld.other W445 j28_6 (Or.inl nesx0))
        have c583 := (Fld.other W445 j28_7 (Or.inl nesx0))
        have c584 := (Fld.other W445 Fsx (Or.inl nesx0))
        have c585 := (Arv.other j28_8 W445 nesx1)
        have c586 := (Arv.other j28_9 W445 nesx2)
        exact ⟨_, ⟨_, _, _, .unset, .unset, rfl, own_more Xh446 (by decide) (by decide), e445, Nh446, K455, c576, c577, c578, c579, c580, c581, c582, c583, c584, c585, c586, V445⟩, fun t k => k⟩
    refine own_pre (B := T454.setTop (mkF m 121 #[.val (.ref a1), .val (.ref a2), .val (.double d3), .second, .val (.int z447), sl448, sl449] [])) (fun t k => st454 t k) ?_
    refine own_pre (B := T454.setTop (mkF m 122 #[.val (.ref a1), .val (.ref a2), .val (.double d3), .second, .val (.int z447), sl448, sl449] [(.ref a1)])) (fun t k => XS.aloadN X454.here hx rfl (hb hby d4_121) rfl rfl k) ?_
    refine own_pre (B := T454.setTop (mkF m 124 #[.val (.ref a1), .val (.ref a2), .val (.double d3), .second, .val (.int z447), sl448, sl449] [(.int z447), (.ref a1)])) (fun t k => XS.iload X454.here hx rfl (hb hby d4_122) rfl k) ?_
    refine own_pre (B := T454.setTop (mkF m 125 #[.val (.ref a1), .val (.ref a2), .val (.double d3), .second, .val (.int z447), sl448, sl449] [(.int (1 : Int32)), (.int z447), (.ref a1)])) (fun t k => XS.iconst X454.here hx rfl (hb hby d4_124) k) ?_
    refine own_pre (B := T454.setTop (mkF m 126 #[.val (.ref a1), .val (.ref a2), .val (.double d3), .second, .val (.int z447), sl448, sl449] [(.int (z447 - (1 : Int32))), (.ref a1)])) (fun t k => XS.isub X454.here hx rfl (hb hby d4_125) rfl k) ?_
    obtain ⟨T587, h587, X587, e587, W587, st587⟩ := putF X454 hx hZ hown (host := "") (Or.inl (hw _ (ow 38 rfl))) Via.refl e454 j454_6 j454_0 (Or.inl (hw _ (ow 39 rfl))) (hw _ (ow 9 rfl)) (ty := .int) (by decide) rfl rfl (g := (mkF m 126 #[.val (.ref a1), .val (.ref a2), .val (.double d3), .second, .val (.int z447), sl448, sl449] [(.int (z447 - (1 : Int32))), (.ref a1)])) rfl rfl (hb hby d4_126)
    have Fw587 := Fld.same W587 j454_6
    have N587 := Fr.snoc X587 N454 g_a1
    obtain ⟨Lh588, Xh588, Nh588⟩ := own_hide X587 N587
    refine own_pre (B := T587.setTop (mkF m 129 #[.val (.ref a1), .val (.ref a2), .val (.double d3), .second, .val (.int z447), sl448, sl449] [])) (fun t k => st587 t k) ?_
    refine own_pre (B := T587.setTop (mkF m 130 #[.val (.ref a1), .val (.ref a2), .val (.double d3), .second, .val (.int z447), sl448, sl449] [(.ref a1)])) (fun t k => XS.aloadN Xh588.here hx rfl (hb hby d4_129) rfl rfl k) ?_
    refine own_pre (B := T587.setTop (mkF m 131 #[.val (.ref a1), .val (.ref a2), .val (.double d3), .second, .val (.int z447), sl448, sl449] [(.ref a1), (.ref a1)])) (fun t k => XS.aloadN Xh588.here hx rfl (hb hby d4_130) rfl rfl k) ?_
    obtain ⟨T589, X589, e589, st589⟩ := getF Xh588 hx hZ hown (host := "") (Or.inl (hw _ (ow 38 rfl))) Via.refl e587 Fw587 (g := (mkF m 131 #[.val (.ref a1), .val (.ref a2), .val (.double d3), .second, .val (.int z447), sl448, sl449] [(.ref a1), (.ref a1)])) rfl rfl (hb hby d4_131)
    refine own_pre (B := T589.setTop (mkF m 134 #[.val (.ref a1), .val (.ref a2), .val (.double d3), .second, .val (.int z447), sl448, sl449] [(.int (z447 - (1 : Int32))), (.ref a1)])) (fun t k => st589 t k) ?_
    have c590 := (Exa.wr W587 j454_0)
    have c591 := (Fld.other W587 j454_7 (Or.inr (slot_ne (Or.inl (hw _ (ow 41 rfl))) (Or.inl (hw _ (ow 39 rfl))) (by decide) (t := .int) (t' := .int) (by decide) (by decide))))
    have K592 : Keep h0 h587 [a1, w_suffix_a1] := (Keep.wr K454j W587 (Or.inl (List.mem_of_getElem? (i := 0) rfl)))
    obtain ⟨T593, h593, X593, e593, W593, st593⟩ := putF X589 hx hZ hown (host := "") (Or.inl (hw _ (ow 40 rfl))) Via.refl e589 c591 c590 (Or.inl (hw _ (ow 41 rfl))) (hw _ (ow 9 rfl)) (ty := .int) (by decide) rfl rfl (g := (mkF m 134 #[.val (.ref a1), .val (.ref a2), .val (.double d3), .second, .val (.int z447), sl448, sl449] [(.int (z447 - (1 : Int32))), (.ref a1)])) rfl rfl (hb hby d4_134)
    have Fw593 := Fld.same W593 c591
    have N593 := Fr.snoc X593 Nh588 g_a1
    obtain ⟨Lh594, Xh594, Nh594⟩ := own_hide X593 N593
    refine own_pre (B := T593.setTop (mkF m 137 #[.val (.ref a1), .val (.ref a2), .val (.double d3), .second, .val (.int z447), sl448, sl449] [])) (fun t k => st593 t k) ?_
    refine own_pre (B := T593.setTop (mkF m 139 #[.val (.ref a1), .val (.ref a2), .val (.double d3), .second, .val (.int z447), sl448, sl449] [(.int z447)])) (fun t k => XS.iload Xh594.here hx rfl (hb hby d4_137) rfl k) ?_
    have K595 : Keep h0 h593 [a1, w_suffix_a1] := (Keep.wr K592 W593 (Or.inl (List.mem_of_getElem? (i := 0) rfl)))
    have c596 := (Exa.wr W593 c590)
    have c597 := (Arv.other (Arv.other j454_11 W587 (Ne.symm nesx0)) W593 (Ne.symm nesx0))
    have c598 := (Fld.other W593 (Fld.other W587 j454_1 (Or.inr (slot_ne (Or.inl (hw _ (ow 18 rfl))) (Or.inl (hw _ (ow 39 rfl))) (by decide) (t := (.array .int)) (t' := .int) (by decide) (by decide)))) (Or.inr (slot_ne (Or.inl (hw _ (ow 18 rfl))) (Or.inl (hw _ (ow 41 rfl))) (by decide) (t := (.array .int)) (t' := .int) (by decide) (by decide))))
    have c599 := (Fld.other W593 (Fld.other W587 j454_2 (Or.inr (slot_ne (Or.inl (hw _ (ow 33 rfl))) (Or.inl (hw _ (ow 39 rfl))) (by decide) (t := .double) (t' := .int) (by decide) (by decide)))) (Or.inr (slot_ne (Or.inl (hw _ (ow 33 rfl))) (Or.inl (hw _ (ow 41 rfl))) (by decide) (t := .double) (t' := .int) (by decide) (by decide))))
    have c600 := (Fld.other W593 (Fld.other W587 j454_3 (Or.inr (slot_ne (Or.inl (hw _ (ow 35 rfl))) (Or.inl (hw _ (ow 39 rfl))) (by decide) (t := .int) (t' := .int) (by decide) (by decide)))) (Or.inr (slot_ne (Or.inl (hw _ (ow 35 rfl))) (Or.inl (hw _ (ow 41 rfl))) (by decide) (t := .int) (t' := .int) (by decide) (by decide))))
    have c601 := (Fld.other W593 (Fld.other W587 j454_4 (Or.inr (slot_ne (Or.inl (hw _ (ow 37 rfl))) (Or.inl (hw _ (ow 39 rfl))) (by decide) (t := .int) (t' := .int) (by decide) (by decide)))) (Or.inr (slot_ne (Or.inl (hw _ (ow 37 rfl))) (Or.inl (hw _ (ow 41 rfl))) (by decide) (t := .int) (t' := .int) (by decide) (by decide))))
    have c602 := (Fld.other W593 (Fld.other W587 j454_8 (Or.inr (slot_ne (Or.inl (hw _ (ow 20 rfl))) (Or.inl (hw _ (ow 39 rfl))) (by decide) (t := (.array .double)) (t' := .int) (by decide) (by decide)))) (Or.inr (slot_ne (Or.inl (hw _ (ow 20 rfl))) (Or.inl (hw _ (ow 41 rfl))) (by decide) (t := (.array .double)) (t' := .int) (by decide) (by decide))))
    have c603 := (Fld.other W593 (Fld.other W587 j454_5 (Or.inr (slot_ne (Or.inr (hw _ (ow 26 rfl))) (Or.inl (hw _ (ow 39 rfl))) (by decide) (t := (.array .double)) (t' := .int) (by decide) (by decide)))) (Or.inr (slot_ne (Or.inr (hw _ (ow 26 rfl))) (Or.inl (hw _ (ow 41 rfl))) (by decide) (t := (.array .double)) (t' := .int) (by decide) (by decide))))
    have c604 := (Fld.other W593 Fw587 (Or.inr (slot_ne (Or.inl (hw _ (ow 39 rfl))) (Or.inl (hw _ (ow 41 rfl))) (by decide) (t := .int) (t' := .int) (by decide) (by decide))))
    obtain ⟨fsr605, hrr605, hrunr605, hendedr605, hWr605, hsamer605⟩ := Xh594.leave (v := some (.int z447)) (fun h => by rw [Bd.returns] at h; cases h)
    refine ⟨_, _, (retI Xh594 hx Bd.returns (hb hby d4_139) hrr605), hrunr605, hendedr605, _, _, rfl, ?_, ⟨_, rfl⟩, hWr605, hsamer605.mono (by decide) (by decide)⟩
    show Q4 Z a1 a2 d3 w_suffix_a1 w_weights_a1 k_w_suffix_a1 NN u0 u1 u2 u3 u4 k_w_weights_a1 w0 w1 w2 w3 w4 w5 w6 w7 k_a2 (4 : Int32) r0 r1 r2 r3 kq ve0 ve1 ve2 ve3 w_firstLast_a1 w_last_a1 u_bag_a1 u_least_a1 u_heavyCount_a1 u_lastLevel_a1 h0 n0 _ T593.heap _
    rw [e593]
    exact ⟨sx, kx, nx, z450, z451, z452, z453, (FP.l2d (0 : Int64)), (z447 - (1 : Int32)), (z447 - (1 : Int32)), (by rw [hz447, own_f4_4]), Nh594, K595, gsx, osx, hnx, c596, c598, c599, c600, c601, c602, c603, c604, Fw593, c597⟩
def own_e (nn i : Int32) (e : Int64) : Int64 := if i < nn then e else (0 : Int64)
def own_s (nn i : Int32) (t kq : Int64) (c : Int32) : Int32 := if i < nn then (if (t + t) < kq then c else (c + (1 : Int32))) else c
def own_f5 (nn : Int32) (kq ve0 ve1 ve2 ve3 : Int64) : Int32 := own_s nn 3 (own_e nn 3 ve3) kq (own_s nn 2 (own_e nn 2 ve2 + own_e nn 3 ve3) kq (own_s nn 1 (own_e nn 1 ve1 + (own_e nn 2 ve2 + own_e nn 3 ve3)) kq (own_s nn 0 (own_e nn 0 ve0 + (own_e nn 1 ve1 + (own_e nn 2 ve2 + own_e nn 3 ve3))) kq 0)))
theorem d5_0 : decode method_4_code 0 = .ok (.aload_n 1, 1) := by decide +kernel
theorem d5_1 : decode method_4_code 1 = .ok (.arraylength, 1) := by decide +kernel
theorem d5_2 : decode method_4_code 2 = .ok (.istore 4, 2) := by decide +kernel
theorem d5_4 : decode method_4_code 4 = .ok (.iload 4, 2) := by decide +kernel
theorem d5_6 : decode method_4_code 6 = .ok (.ifCond .le 11, 3) := by decide +kernel
theorem d5_9 : decode method_4_code 9 = .ok (.aload_n 0, 1) := by decide +kernel
theorem d5_10 : decode method_4_code 10 = .ok (.aload_n 1, 1) := by decide +kernel
theorem d5_11 : decode method_4_code 11 = .ok (.iconst 0, 1) := by decide +kernel
theorem d5_12 : decode method_4_code 12 = .ok (.iaload, 1) := by decide +kernel
theorem d5_13 : decode method_4_code 13 = .ok (.daload, 1) := by decide +kernel
theorem d5_14 : decode method_4_code 14 = .ok (.goto 4, 3) := by decide +kernel
theorem d5_17 : decode method_4_code 17 = .ok (.dconst 0, 1) := by decide +kernel
theorem d5_18 : decode method_4_code 18 = .ok (.dstore 5, 2) := by decide +kernel
theorem d5_20 : decode method_4_code 20 = .ok (.iload 4, 2) := by decide +kernel
theorem d5_22 : decode method_4_code 22 = .ok (.iconst 1, 1) := by decide +kernel
theorem d5_23 : decode method_4_code 23 = .ok (.if_icmp .le 11, 3) := by decide +kernel
theorem d5_26 : decode method_4_code 26 = .ok (.aload_n 0, 1) := by decide +kernel
theorem d5_27 : decode method_4_code 27 = .ok (.aload_n 1, 1) := by decide +kernel
theorem d5_28 : decode method_4_code 28 = .ok (.iconst 1, 1) := by decide +kernel
theorem d5_29 : decode method_4_code 29 = .ok (.iaload, 1) := by decide +kernel
theorem d5_30 : decode method_4_code 30 = .ok (.daload, 1) := by decide +kernel
theorem d5_31 : decode method_4_code 31 = .ok (.goto 4, 3) := by decide +kernel
theorem d5_34 : decode method_4_code 34 = .ok (.dconst 0, 1) := by decide +kernel
theorem d5_35 : decode method_4_code 35 = .ok (.dstore 7, 2) := by decide +kernel
theorem d5_37 : decode method_4_code 37 = .ok (.iload 4, 2) := by decide +kernel
theorem d5_39 : decode method_4_code 39 = .ok (.iconst 2, 1) := by decide +kernel
theorem d5_40 : decode method_4_code 40 = .ok (.if_icmp .le 11, 3) := by decide +kernel
theorem d5_43 : decode method_4_code 43 = .ok (.aload_n 0, 1) := by decide +kernel
theorem d5_44 : decode method_4_code 44 = .ok (.aload_n 1, 1) := by decide +kernel
theorem d5_45 : decode method_4_code 45 = .ok (.iconst 2, 1) := by decide +kernel
theorem d5_46 : decode method_4_code 46 = .ok (.iaload, 1) := by decide +kernel
theorem d5_47 : decode method_4_code 47 = .ok (.daload, 1) := by decide +kernel
theorem d5_48 : decode method_4_code 48 = .ok (.goto 4, 3) := by decide +kernel
theorem d5_51 : decode method_4_code 51 = .ok (.dconst 0, 1) := by decide +kernel
theorem d5_52 : decode method_4_code 52 = .ok (.dstore 9, 2) := by decide +kernel
theorem d5_54 : decode method_4_code 54 = .ok (.iload 4, 2) := by decide +kernel
theorem d5_56 : decode method_4_code 56 = .ok (.iconst 3, 1) := by decide +kernel
theorem d5_57 : decode method_4_code 57 = .ok (.if_icmp .le 11, 3) := by decide +kernel
theorem d5_60 : decode method_4_code 60 = .ok (.aload_n 0, 1) := by decide +kernel
theorem d5_61 : decode method_4_code 61 = .ok (.aload_n 1, 1) := by decide +kernel
theorem d5_62 : decode method_4_code 62 = .ok (.iconst 3, 1) := by decide +kernel
theorem d5_63 : decode method_4_code 63 = .ok (.iaload, 1) := by decide +kernel
theorem d5_64 : decode method_4_code 64 = .ok (.daload, 1) := by decide +kernel
theorem d5_65 : decode method_4_code 65 = .ok (.goto 4, 3) := by decide +kernel
theorem d5_68 : decode method_4_code 68 = .ok (.dconst 0, 1) := by decide +kernel
theorem d5_69 : decode method_4_code 69 = .ok (.dstore 11, 2) := by decide +kernel
theorem d5_71 : decode method_4_code 71 = .ok (.dload 11, 2) := by decide +kernel
theorem d5_73 : decode method_4_code 73 = .ok (.dstore 13, 2) := by decide +kernel
theorem d5_75 : decode method_4_code 75 = .ok (.dload 9, 2) := by decide +kernel
theorem d5_77 : decode method_4_code 77 = .ok (.dload 13, 2) := by decide +kernel
theorem d5_79 : decode method_4_code 79 = .ok (.dadd, 1) := by decide +kernel
theorem d5_80 : decode method_4_code 80 = .ok (.dstore 15, 2) := by decide +kernel
theorem d5_82 : decode method_4_code 82 = .ok (.dload 7, 2) := by decide +kernel
theorem d5_84 : decode method_4_code 84 = .ok (.dload 15, 2) := by decide +kernel
theorem d5_86 : decode method_4_code 86 = .ok (.dadd, 1) := by decide +kernel
theorem d5_87 : decode method_4_code 87 = .ok (.dstore 17, 2) := by decide +kernel
theorem d5_89 : decode method_4_code 89 = .ok (.dload 5, 2) := by decide +kernel
theorem d5_91 : decode method_4_code 91 = .ok (.dload 17, 2) := by decide +kernel
theorem d5_93 : decode method_4_code 93 = .ok (.dadd, 1) := by decide +kernel
theorem d5_94 : decode method_4_code 94 = .ok (.dstore 19, 2) := by decide +kernel
theorem d5_96 : decode method_4_code 96 = .ok (.iconst 0, 1) := by decide +kernel
theorem d5_97 : decode method_4_code 97 = .ok (.istore 21, 2) := by decide +kernel
theorem d5_99 : decode method_4_code 99 = .ok (.iload 4, 2) := by decide +kernel
theorem d5_101 : decode method_4_code 101 = .ok (.ifCond .le 13, 3) := by decide +kernel
theorem d5_104 : decode method_4_code 104 = .ok (.dload 19, 2) := by decide +kernel
theorem d5_106 : decode method_4_code 106 = .ok (.dload_n 2, 1) := by decide +kernel
theorem d5_107 : decode method_4_code 107 = .ok (.dcmp .l, 1) := by decide +kernel
theorem d5_108 : decode method_4_code 108 = .ok (.ifCond .lt 6, 3) := by decide +kernel
theorem d5_111 : decode method_4_code 111 = .ok (.iinc 21 1, 3) := by decide +kernel
theorem d5_114 : decode method_4_code 114 = .ok (.iload 4, 2) := by decide +kernel
theorem d5_116 : decode method_4_code 116 = .ok (.iconst 1, 1) := by decide +kernel
theorem d5_117 : decode method_4_code 117 = .ok (.if_icmp .le 13, 3) := by decide +kernel
theorem d5_120 : decode method_4_code 120 = .ok (.dload 17, 2) := by decide +kernel
theorem d5_122 : decode method_4_code 122 = .ok (.dload_n 2, 1) := by decide +kernel
theorem d5_123 : decode method_4_code 123 = .ok (.dcmp .l, 1) := by decide +kernel
theorem d5_124 : decode method_4_code 124 = .ok (.ifCond .lt 6, 3) := by decide +kernel
theorem d5_127 : decode method_4_code 127 = .ok (.iinc 21 1, 3) := by decide +kernel
theorem d5_130 : decode method_4_code 130 = .ok (.iload 4, 2) := by decide +kernel
theorem d5_132 : decode method_4_code 132 = .ok (.iconst 2, 1) := by decide +kernel
theorem d5_133 : decode method_4_code 133 = .ok (.if_icmp .le 13, 3) := by decide +kernel
theorem d5_136 : decode method_4_code 136 = .ok (.dload 15, 2) := by decide +kernel
theorem d5_138 : decode method_4_code 138 = .ok (.dload_n 2, 1) := by decide +kernel
theorem d5_139 : decode method_4_code 139 = .ok (.dcmp .l, 1) := by decide +kernel
theorem d5_140 : decode method_4_code 140 = .ok (.ifCond .lt 6, 3) := by decide +kernel
theorem d5_143 : decode method_4_code 143 = .ok (.iinc 21 1, 3) := by decide +kernel
theorem d5_146 : decode method_4_code 146 = .ok (.iload 4, 2) := by decide +kernel
theorem d5_148 : decode method_4_code 148 = .ok (.iconst 3, 1) := by decide +kernel
theorem d5_149 : decode method_4_code 149 = .ok (.if_icmp .le 13, 3) := by decide +kernel
theorem d5_152 : decode method_4_code 152 = .ok (.dload 13, 2) := by decide +kernel
theorem d5_154 : decode method_4_code 154 = .ok (.dload_n 2, 1) := by decide +kernel
theorem d5_155 : decode method_4_code 155 = .ok (.dcmp .l, 1) := by decide +kernel
theorem d5_156 : decode method_4_code 156 = .ok (.ifCond .lt 6, 3) := by decide +kernel
theorem d5_159 : decode method_4_code 159 = .ok (.iinc 21 1, 3) := by decide +kernel
theorem d5_162 : decode method_4_code 162 = .ok (.iload 21, 2) := by decide +kernel
theorem d5_164 : decode method_4_code 164 = .ok (.ireturn, 1) := by decide +kernel
theorem pn_5 : plainName "com/example/nearjoin/nearjoin/join/PrefixCutStartPinLaw" = true := by first | (simp [plainName, overriddenIn]; done) | decide +kernel
theorem ef_5 (m : MethodId) (x0 : Addr) (x1 : Addr) (x2 : UInt64) : entryFrame m #[(.ref x0), (.ref x1), (.double x2)] 22 = mkF m 0 #[.val (.ref x0), .val (.ref x1), .val (.double x2), .second, .unset, .unset, .unset, .unset, .unset, .unset, .unset, .unset, .unset, .unset, .unset, .unset, .unset, .unset, .unset, .unset, .unset, .unset] [] := by first | (simp [entryFrame, mkF, argsToLocals, Value.category]; done) | rfl
def Q5 (Z : State) (a1 : Addr) (a2 : Addr) (d3 : UInt64) (k_a1 : ClassId) (w0 : Int64) (w1 : Int64) (w2 : Int64) (w3 : Int64) (w4 : Int64) (w5 : Int64) (w6 : Int64) (w7 : Int64) (k_a2 : ClassId) (nn : Int32) (r0 : Int32) (r1 : Int32) (r2 : Int32) (r3 : Int32) (kq : Int64) (ve0 : Int64) (ve1 : Int64) (ve2 : Int64) (ve3 : Int64) (h0 : Heap) (n0 : Nat) (v : Option Value) (h : Heap) (L : List Loc) : Prop := v = some (.int (own_f5 nn kq ve0 ve1 ve2 ve3)) ∧ Fr n0 L ∧ h = h0
set_option maxRecDepth 65536 in
set_option maxHeartbeats 40000000 in
theorem rm5 (l : Launch) (Z : State) (a0 : Array Value) (hw : ∀ d ∈ tables_1, d.before a0 Z = true) (ws : List Jvm.Cond) (a1 : Addr) (a2 : Addr) (d3 : UInt64) (k_a1 : ClassId) (w0 : Int64) (w1 : Int64) (w2 : Int64) (w3 : Int64) (w4 : Int64) (w5 : Int64) (w6 : Int64) (w7 : Int64) (k_a2 : ClassId) (nn : Int32) (r0 : Int32) (r1 : Int32) (r2 : Int32) (r3 : Int32) (kq : Int64) (ve0 : Int64) (ve1 : Int64) (ve2 : Int64) (ve3 : Int64) (h0 : Heap) (n0 : Nat) (Z0 : n0 ≤ h0.size) (V_a1 : Arv Z h0 a1 k_a1 .double (8 : Int32) [(.double (FP.l2d w0)), (.double (FP.l2d w1)), (.double (FP.l2d w2)), (.double (FP.l2d w3)), (.double (FP.l2d w4)), (.double (FP.l2d w5)), (.double (FP.l2d w6)), (.double (FP.l2d w7))] (.double (FP.l2d (0 : Int64)))) (V_a2 : Arv Z h0 a2 k_a2 .int nn [(.int r0), (.int r1), (.int r2), (.int r3)] (.int (0 : Int32))) (hd : d3 = own_half kq) (hk : own_K kq) (hn : own_n nn) (hE0 : ve0 = own_get8 w0 w1 w2 w3 w4 w5 w6 w7 r0) (hB0 : own_B 255 ve0) (hR0 : own_R r0) (hE1 : ve1 = own_get8 w0 w1 w2 w3 w4 w5 w6 w7 r1) (hB1 : own_B 255 ve1) (hR1 : own_R r1) (hE2 : ve2 = own_get8 w0 w1 w2 w3 w4 w5 w6 w7 r2) (hB2 : own_B 255 ve2) (hR2 : own_R r2) (hE3 : ve3 = own_get8 w0 w1 w2 w3 w4 w5 w6 w7 r3) (hB3 : own_B 255 ve3) (hR3 : own_R r3) :
    MetFree l (⟨"com/example/nearjoin/nearjoin/join/PrefixCutStartPinLaw", "expect", "([D[ID)I"⟩ : MethodName) (head1 (Jvm.Cond.code (⟨"com/example/nearjoin/nearjoin/join/PrefixCutStartPinLaw", "expect", "([D[ID)I"⟩ : MethodName) method_4_code 22 (some .int) :: ws) ({ frames := 0, cells := 0, slots := 0, locals := 0 } : Room)) (fun a U => a = #[(.ref a1), (.ref a2), (.double d3)] ∧ Z.Warmed39 U.vm ∧ U.heap = h0) (fun _ _ _ _ _ => True) (fun _ U o U' => ∃ v L, o = .returned v ∧ Q5 Z a1 a2 d3 k_a1 w0 w1 w2 w3 w4 w5 w6 w7 k_a2 nn r0 r1 r2 r3 kq ve0 ve1 ve2 ve3 h0 n0 v U'.heap L ∧ FrameEnd U o U' L ({ frames := 0, cells := 0, slots := 0, locals := 0 } : Room).cells ({ frames := 0, cells := 0, slots := 0, locals := 0 } : Room).slots) := by
  refine MetFree.of_bodySF (plainFor_of_name pn_5) hisR ?_
  intro p e s m args below meth c s₁ Bd hml0 hP hK
  obtain ⟨rfl, hZ, hh⟩ := hP
  have hx := Bd.exec
  have hby := Bd.bytes
  have hml : c.maxLocals = 22 := hml0
  have hown : s.vm.findClass "com/example/nearjoin/nearjoin/join/PrefixCutStartPinLaw" = some m.cls := findClass_of_methodNamed Bd.named
  have hnm := (name_of_methodNamed Bd.named Bd.method).1
  have X0 : Stand p l e ({ frames := 0, cells := 0, slots := 0, locals := 0 } : Room) s m #[(.ref a1), (.ref a2), (.double d3)] below meth c s₁ [] 0 0 := Stand.of_body Bd
  have e0 : s₁.heap = h0 := by rw [← hh, Bd.state]; rfl
  have N0 := Fr.nil n0
  apply own_in
  refine own_pre (B := s₁.setTop (mkF m 0 #[.val (.ref a1), .val (.ref a2), .val (.double d3), .second, .unset, .unset, .unset, .unset, .unset, .unset, .unset, .unset, .unset, .unset, .unset, .unset, .unset, .unset, .unset, .unset, .unset, .unset] [])) (fun t k => castTop (ef_5 m a1 a2 d3) k) ?_
  refine own_pre (B := s₁.setTop (mkF m 1 #[.val (.ref a1), .val (.ref a2), .val (.double d3), .second, .unset, .unset, .unset, .unset, .unset, .unset, .unset, .unset, .unset, .unset, .unset, .unset, .unset, .unset, .unset, .unset, .unset, .unset] [(.ref a2)])) (fun t k => XS.aloadN X0.here hx rfl (hb hby d5_0) rfl rfl k) ?_
  obtain ⟨cl4, Ar4, -, S4, N4v, -, -⟩ := id V_a2
  refine own_pre (B := s₁.setTop (mkF m 2 #[.val (.ref a1), .val (.ref a2), .val (.double d3), .second, .unset, .unset, .unset, .unset, .unset, .unset, .unset, .unset, .unset, .unset, .unset, .unset, .unset, .unset, .unset, .unset, .unset, .unset] [(.int nn)])) (fun t k => X0.arraylength hx (by rw [e0]; exact Ar4.1) (State.isArrayOf_alike hZ.alike Ar4.2.1) (g := (mkF m 1 #[.val (.ref a1), .val (.ref a2), .val (.double d3), .second, .unset, .unset, .unset, .unset, .unset, .unset, .unset, .unset, .unset, .unset, .unset, .unset, .unset, .unset, .unset, .unset, .unset, .unset] [(.ref a2)])) rfl rfl (hb hby d5_1) t (by rw [len_of S4 N4v]; exact k)) ?_
  refine own_pre (B := s₁.setTop (mkF m 4 #[.val (.ref a1), .val (.ref a2), .val (.double d3), .second, .val (.int nn), .unset, .unset, .unset, .unset, .unset, .unset, .unset, .unset, .unset, .unset, .unset, .unset, .unset, .unset, .unset, .unset, .unset] [])) (fun t k => XS.istore X0.here hx rfl (hb hby d5_2) rfl (l' := #[.val (.ref a1), .val (.ref a2), .val (.double d3), .second, .val (.int nn), .unset, .unset, .unset, .unset, .unset, .unset, .unset, .unset, .unset, .unset, .unset, .unset, .unset, .unset, .unset, .unset, .unset]) rfl k) ?_
  refine own_pre (B := s₁.setTop (mkF m 6 #[.val (.ref a1), .val (.ref a2), .val (.double d3), .second, .val (.int nn), .unset, .unset, .unset, .unset, .unset, .unset, .unset, .unset, .unset, .unset, .unset, .unset, .unset, .unset, .unset, .unset, .unset] [(.int nn)])) (fun t k => XS.iload X0.here hx rfl (hb hby d5_4) rfl k) ?_
  obtain ⟨z5, hz5⟩ : ∃ z : Int64, z = (if (0 : Int32) < nn then ve0 else (0 : Int64)) := ⟨_, rfl⟩
  refine own_pre (B := s₁.setTop (mkF m 18 #[.val (.ref a1), .val (.ref a2), .val (.double d3), .second, .val (.int nn), .unset, .unset, .unset, .unset, .unset, .unset, .unset, .unset, .unset, .unset, .unset, .unset, .unset, .unset, .unset, .unset, .unset] [(.double (FP.l2d z5))])) (fun t k => ?_) ?_
  · by_cases hc6_6 : (0 : Int32) < nn
    · refine XS.ifNo X0.here hx rfl (hb hby d5_6) rfl ((if0 _ _).trans (tlt hc6_6).2.2.2) ?_
      show Steps p.tables e below (s₁.setTop (mkF m 9 #[.val (.ref a1), .val (.ref a2), .val (.double d3), .second, .val (.int nn), .unset, .unset, .unset, .unset, .unset, .unset, .unset, .unset, .unset, .unset, .unset, .unset, .unset, .unset, .unset, .unset, .unset] [])) _
      refine XS.aloadN X0.here hx rfl (hb hby d5_9) rfl rfl ?_
      show Steps p.tables e below (s₁.setTop (mkF m 10 #[.val (.ref a1), .val (.ref a2), .val (.double d3), .second, .val (.int nn), .unset, .unset, .unset, .unset, .unset, .unset, .unset, .unset, .unset, .unset, .unset, .unset, .unset, .unset, .unset, .unset, .unset] [(.ref a1)])) _
      refine XS.aloadN X0.here hx rfl (hb hby d5_10) rfl rfl ?_
      show Steps p.tables e below (s₁.setTop (mkF m 11 #[.val (.ref a1), .val (.ref a2), .val (.double d3), .second, .val (.int nn), .unset, .unset, .unset, .unset, .unset, .unset, .unset, .unset, .unset, .unset, .unset, .unset, .unset, .unset, .unset, .unset, .unset] [(.ref a2), (.ref a1)])) _
      refine XS.iconst X0.here hx rfl (hb hby d5_11) ?_
      show Steps p.tables e below (s₁.setTop (mkF m 12 #[.val (.ref a1), .val (.ref a2), .val (.double d3), .second, .val (.int nn), .unset, .unset, .unset, .unset, .unset, .unset, .unset, .unset, .unset, .unset, .unset, .unset, .unset, .unset, .unset, .unset, .unset] [(.int (0 : Int32)), (.ref a2), (.ref a1)])) _
      obtain ⟨cl7, Ar7, q7, S7, N7v, H7v, G7v⟩ := V_a2
      have V_a2 : Arv Z h0 a2 k_a2 .int nn [(.int r0), (.int r1), (.int r2), (.int r3)] (.int (0 : Int32)) := ⟨cl7, Ar7, q7, S7, N7v, H7v, G7v⟩
      have hin7 : ¬ ((0 : Int32) < 0 ∨ cl7.slots.size ≤ ((0 : Int32)).toNatClampNeg) := inb_of S7 ⟨by decide, hc6_6⟩
      have hat7 : cl7.slots[((0 : Int32)).toNatClampNeg]? = some (.int r0) := H7v.at hin7 rfl
      refine X0.iaload hx (j := (0 : Int32)) (v := (.int r0)) (by rw [e0]; exact Ar7.1) (State.isArrayOf_alike hZ.alike Ar7.2.1) Ar7.2.2 hin7 hat7 (g := (mkF m 12 #[.val (.ref a1), .val (.ref a2), .val (.double d3), .second, .val (.int nn), .unset, .unset, .unset, .unset, .unset, .unset, .unset, .unset, .unset, .unset, .unset, .unset, .unset, .unset, .unset, .unset, .unset] [(.int (0 : Int32)), (.ref a2), (.ref a1)])) rfl rfl (hb hby d5_12) _ ?_
      show Steps p.tables e below (s₁.setTop (mkF m 13 #[.val (.ref a1), .val (.ref a2), .val (.double d3), .second, .val (.int nn), .unset, .unset, .unset, .unset, .unset, .unset, .unset, .unset, .unset, .unset, .unset, .unset, .unset, .unset, .unset, .unset, .unset] [(.int r0), (.ref a1)])) _
      obtain ⟨cl8, Ar8, q8, S8, N8v, H8v, G8v⟩ := V_a1
      have V_a1 : Arv Z h0 a1 k_a1 .double (8 : Int32) [(.double (FP.l2d w0)), (.double (FP.l2d w1)), (.double (FP.l2d w2)), (.double (FP.l2d w3)), (.double (FP.l2d w4)), (.double (FP.l2d w5)), (.double (FP.l2d w6)), (.double (FP.l2d w7))] (.double (FP.l2d (0 : Int64))) := ⟨cl8, Ar8, q8, S8, N8v, H8v, G8v⟩
      have hin8 : ¬ (r0 < 0 ∨ cl8.slots.size ≤ (r0).toNatClampNeg) := inb_of S8 hR0
      have hat8 : cl8.slots[(r0).toNatClampNeg]? = some (.double (FP.l2d ve0)) := H8v.at hin8 (own_getE hR0 hE0)
      refine X0.daload hx (j := r0) (v := (.double (FP.l2d ve0))) (by rw [e0]; exact Ar8.1) (State.isArrayOf_alike hZ.alike Ar8.2.1) Ar8.2.2 hin8 hat8 (g := (mkF m 13 #[.val (.ref a1), .val (.ref a2), .val (.double d3), .second, .val (.int nn), .unset, .unset, .unset, .unset, .unset, .unset, .unset, .unset, .unset, .unset, .unset, .unset, .unset, .unset, .unset, .unset, .unset] [(.int r0), (.ref a1)])) rfl rfl (hb hby d5_13) _ ?_
      show Steps p.tables e below (s₁.setTop (mkF m 14 #[.val (.ref a1), .val (.ref a2), .val (.double d3), .second, .val (.int nn), .unset, .unset, .unset, .unset, .unset, .unset, .unset, .unset, .unset, .unset, .unset, .unset, .unset, .unset, .unset, .unset, .unset] [(.double (FP.l2d ve0))])) _
      refine XS.goto X0.here hx rfl (pc0 := 14) (pc' := 18) rfl (hb hby d5_14) (by decide) (by decide) ?_
      show Steps p.tables e below (s₁.setTop (mkF m 18 #[.val (.ref a1), .val (.ref a2), .val (.double d3), .second, .val (.int nn), .unset, .unset, .unset, .unset, .unset, .unset, .unset, .unset, .unset, .unset, .unset, .unset, .unset, .unset, .unset, .unset, .unset] [(.double (FP.l2d ve0))])) _
      rw [if_pos hc6_6] at hz5
      subst hz5
      exact k
    · refine XS.ifYes X0.here hx rfl (pc0 := 6) (pc' := 17) rfl (hb hby d5_6) rfl ((if0 _ _).trans (flt hc6_6).2.2.2) (by decide) (by decide) ?_
      show Steps p.tables e below (s₁.setTop (mkF m 17 #[.val (.ref a1), .val (.ref a2), .val (.double d3), .second, .val (.int nn), .unset, .unset, .unset, .unset, .unset, .unset, .unset, .unset, .unset, .unset, .unset, .unset, .unset, .unset, .unset, .unset, .unset] [])) _
      refine XS.dconst0 X0.here hx rfl (hb hby d5_17) own_dc0 ?_
      show Steps p.tables e below (s₁.setTop (mkF m 18 #[.val (.ref a1), .val (.ref a2), .val (.double d3), .second, .val (.int nn), .unset, .unset, .unset, .unset, .unset, .unset, .unset, .unset, .unset, .unset, .unset, .unset, .unset, .unset, .unset, .unset, .unset] [(.double (FP.l2d (0 : Int64)))])) _
      rw [if_neg hc6_6] at hz5
      subst hz5
      exact k
  refine own_pre (B := s₁.setTop (mkF m 20 #[.val (.ref a1), .val (.ref a2), .val (.double d3), .second, .val (.int nn), .val (.double (FP.l2d z5)), .second, .unset, .unset, .unset, .unset, .unset, .unset, .unset, .unset, .unset, .unset, .unset, .unset, .unset, .unset, .unset] [])) (fun t k => XS.dstore X0.here hx rfl (hb hby d5_18) rfl (l' := #[.val (.ref a1), .val (.ref a2), .val (.double d3), .second, .val (.int nn), .val (.double (FP.l2d z5)), .second, .unset, .unset, .unset, .unset, .unset, .unset, .unset, .unset, .unset, .unset, .unset, .unset, .unset, .unset, .unset]) rfl k) ?_
  refine own_pre (B := s₁.setTop (mkF m 22 #[.val (.ref a1), .val (.ref a2), .val (.double d3), .second, .val (.int nn), .val (.double (FP.l2d z5)), .second, .unset, .unset, .unset, .unset, .unset, .unset, .unset, .unset, .unset, .unset, .unset, .unset, .unset, .unset, .unset] [(.int nn)])) (fun t k => XS.iload X0.here hx rfl (hb hby d5_20) rfl k) ?_
  refine own_pre (B := s₁.setTop (mkF m 23 #[.val (.ref a1), .val (.ref a2), .val (.double d3), .second, .val (.int nn), .val (.double (FP.l2d z5)), .second, .unset, .unset, .unset, .unset, .unset, .unset, .unset, .unset, .unset, .unset, .unset, .unset, .unset, .unset, .unset] [(.int (1 : Int32)), (.int nn)])) (fun t k => XS.iconst X0.here hx rfl (hb hby d5_22) k) ?_
  obtain ⟨z9, hz9⟩ : ∃ z : Int64, z = (if (1 : Int32) < nn then ve1 else (0 : Int64)) := ⟨_, rfl⟩
  refine own_pre (B := s₁.setTop (mkF m 35 #[.val (.ref a1), .val (.ref a2), .val (.double d3), .second, .val (.int nn), .val (.double (FP.l2d z5)), .second, .unset, .unset, .unset, .unset, .unset, .unset, .unset, .unset, .unset, .unset, .unset, .unset, .unset, .unset, .unset] [(.double (FP.l2d z9))])) (fun t k => ?_) ?_
  · by_cases hc23_10 : (1 : Int32) < nn
    · refine XS.icmpNo X0.here hx rfl (hb hby d5_23) rfl (tlt hc23_10).2.2.2 ?_
      show Steps p.tables e below (s₁.setTop (mkF m 26 #[.val (.ref a1), .val (.ref a2), .val (.double d3), .second, .val (.int nn), .val (.double (FP.l2d z5)), .second, .unset, .unset, .unset, .unset, .unset, .unset, .unset, .unset, .unset, .unset, .unset, .unset, .unset, .unset, .unset] [])) _
      refine XS.aloadN X0.here hx rfl (hb hby d5_26) rfl rfl ?_
      show Steps p.tables e below (s₁.setTop (mkF m 27 #[.val (.ref a1), .val (.ref a2), .val (.double d3), .second, .val (.int nn), .val (.double (FP.l2d z5)), .second, .unset, .unset, .unset, .unset, .unset, .unset, .unset, .unset, .unset, .unset, .unset, .unset, .unset, .unset, .unset] [(.ref a1)])) _
      refine XS.aloadN X0.here hx rfl (hb hby d5_27) rfl rfl ?_
      show Steps p.tables e below (s₁.setTop (mkF m 28 #[.val (.ref a1), .val (.ref a2), .val (.double d3), .second, .val (.int nn), .val (.double (FP.l2d z5)), .second, .unset, .unset, .unset, .unset, .unset, .unset, .unset, .unset, .unset, .unset, .unset, .unset, .unset, .unset, .unset] [(.ref a2), (.ref a1)])) _
      refine XS.iconst X0.here hx rfl (hb hby d5_28) ?_
      show Steps p.tables e below (s₁.setTop (mkF m 29 #[.val (.ref a1), .val (.ref a2), .val (.double d3), .second, .val (.int nn), .val (.double (FP.l2d z5)), .second, .unset, .unset, .unset, .unset, .unset, .unset, .unset, .unset, .unset, .unset, .unset, .unset, .unset, .unset, .unset] [(.int (1 : Int32)), (.ref a2), (.ref a1)])) _
      obtain ⟨cl11, Ar11, q11, S11, N11v, H11v, G11v⟩ := V_a2
      have V_a2 : Arv Z h0 a2 k_a2 .int nn [(.int r0), (.int r1), (.int r2), (.int r3)] (.int (0 : Int32)) := ⟨cl11, Ar11, q11, S11, N11v, H11v, G11v⟩
      have hin11 : ¬ ((1 : Int32) < 0 ∨ cl11.slots.size ≤ ((1 : Int32)).toNatClampNeg) := inb_of S11 ⟨by decide, hc23_10⟩
      have hat11 : cl11.slots[((1 : Int32)).toNatClampNeg]? = some (.int r1) := H11v.at hin11 rfl
      refine X0.iaload hx (j := (1 : Int32)) (v := (.int r1)) (by rw [e0]; exact Ar11.1) (State.isArrayOf_alike hZ.alike Ar11.2.1) Ar11.2.2 hin11 hat11 (g := (mkF m 29 #[.val (.ref a1), .val (.ref a2), .val (.double d3), .second, .val (.int nn), .val (.double (FP.l2d z5)), .second, .unset, .unset, .unset, .unset, .unset, .unset, .unset, .unset, .unset, .unset, .unset, .unset, .unset, .unset, .unset] [(.int (1 : Int32)), (.ref a2), (.ref a1)])) rfl rfl (hb hby d5_29) _ ?_
      show Steps p.tables e below (s₁.setTop (mkF m 30 #[.val (.ref a1), .val (.ref a2), .val (.double d3), .second, .val (.int nn), .val (.double (FP.l2d z5)), .second, .unset, .unset, .unset, .unset, .unset, .unset, .unset, .unset, .unset, .unset, .unset, .unset, .unset, .unset, .unset] [(.int r1), (.ref a1)])) _
      obtain ⟨cl12, Ar12, q12, S12, N12v, H12v, G12v⟩ := V_a1
      have V_a1 : Arv Z h0 a1 k_a1 .double (8 : Int32) [(.double (FP.l2d w0)), (.double (FP.l2d w1)), (.double (FP.l2d w2)), (.double (FP.l2d w3)), (.double (FP.l2d w4)), (.double (FP.l2d w5)), (.double (FP.l2d w6)), (.double (FP.l2d w7))] (.double (FP.l2d (0 : Int64))) := ⟨cl12, Ar12, q12, S12, N12v, H12v, G12v⟩
      have hin12 : ¬ (r1 < 0 ∨ cl12.slots.size ≤ (r1).toNatClampNeg) := inb_of S12 hR1
      have hat12 : cl12.slots[(r1).toNatClampNeg]? = some (.double (FP.l2d ve1)) := H12v.at hin12 (own_getE hR1 hE1)
      refine X0.daload hx (j := r1) (v := (.double (FP.l2d ve1))) (by rw [e0]; exact Ar12.1) (State.isArrayOf_alike hZ.alike Ar12.2.1) Ar12.2.2 hin12 hat12 (g := (mkF m 30 #[.val (.ref a1), .val (.ref a2), .val (.double d3), .second, .val (.int nn), .val (.double (FP.l2d z5)), .second, .unset, .unset, .unset, .unset, .unset, .unset, .unset, .unset, .unset, .unset, .unset, .unset, .unset, .unset, .unset] [(.int r1), (.ref a1)])) rfl rfl (hb hby d5_30) _ ?_
      show Steps p.tables e below (s₁.setTop (mkF m 31 #[.val (.ref a1), .val (.ref a2), .val (.double d3), .second, .val (.int nn), .val (.double (FP.l2d z5)), .second, .unset, .unset, .unset, .unset, .unset, .unset, .unset, .unset, .unset, .unset, .unset, .unset, .unset, .unset, .unset] [(.double (FP.l2d ve1))])) _
      refine XS.goto X0.here hx rfl (pc0 := 31) (pc' := 35) rfl (hb hby d5_31) (by decide) (by decide) ?_
      show Steps p.tables e below (s₁.setTop (mkF m 35 #[.val (.ref a1), .val (.ref a2), .val (.double d3), .second, .val (.int nn), .val (.double (FP.l2d z5)), .second, .unset, .unset, .unset, .unset, .unset, .unset, .unset, .unset, .unset, .unset, .unset, .unset, .unset, .unset, .unset] [(.double (FP.l2d ve1))])) _
      rw [if_pos hc23_10] at hz9
      subst hz9
      exact k
    · refine XS.icmpYes X0.here hx rfl (pc0 := 23) (pc' := 34) rfl (hb hby d5_23) rfl (flt hc23_10).2.2.2 (by decide) (by decide) ?_
      show Steps p.tables e below (s₁.setTop (mkF m 34 #[.val (.ref a1), .val (.ref a2), .val (.double d3), .second, .val (.int nn), .val (.double (FP.l2d z5)), .second, .unset, .unset, .unset, .unset, .unset, .unset, .unset, .unset, .unset, .unset, .unset, .unset, .unset, .unset, .unset] [])) _
      refine XS.dconst0 X0.here hx rfl (hb hby d5_34) own_dc0 ?_
      show Steps p.tables e below (s₁.setTop (mkF m 35 #[.val (.ref a1), .val (.ref a2), .val (.double d3), .second, .val (.int nn), .val (.double (FP.l2d z5)), .second, .unset, .unset, .unset, .unset, .unset, .unset, .unset, .unset, .unset, .unset, .unset, .unset, .unset, .unset, .unset] [(.double (FP.l2d (0 : Int64)))])) _
      rw [if_neg hc23_10] at hz9
      subst hz9
      exact k
  refine own_pre (B := s₁.setTop (mkF m 37 #[.val (.ref a1), .val (.ref a2), .val (.double d3), .second, .val (.int nn), .val (.double (FP.l2d z5)), .second, .val (.double (FP.l2d z9)), .second, .unset, .unset, .unset, .unset, .unset, .unset, .unset, .unset, .unset, .unset, .unset, .unset, .unset] [])) (fun t k => XS.dstore X0.here hx rfl (hb hby d5_35) rfl (l' := #[.val (.ref a1), .val (.ref a2), .val (.double d3), .second, .val (.int nn), .val (.double (FP.l2d z5)), .second, .val (.double (FP.l2d z9)), .second, .unset, .unset, .unset, .unset, .unset, .unset, .unset, .unset, .unset, .unset, .unset, .unset, .unset]) rfl k) ?_
  refine own_pre (B := s₁.setTop (mkF m 39 #[.val (.ref a1), .val (.ref a2), .val (.double d3), .second, .val (.int nn), .val (.double (FP.l2d z5)), .second, .val (.double (FP.l2d z9)), .second, .unset, .unset, .unset, .unset, .unset, .unset, .unset, .unset, .unset, .unset, .unset, .unset, .unset] [(.int nn)])) (fun t k => XS.iload X0.here hx rfl (hb hby d5_37) rfl k) ?_
  refine own_pre (B := s₁.setTop (mkF m 40 #[.val (.ref a1), .val (.ref a2), .val (.double d3), .second, .val (.int nn), .val (.double (FP.l2d z5)), .second, .val (.double (FP.l2d z9)), .second, .unset, .unset, .unset, .unset, .unset, .unset, .unset, .unset, .unset, .unset, .unset, .unset, .unset] [(.int (2 : Int32)), (.int nn)])) (fun t k => XS.iconst X0.here hx rfl (hb hby d5_39) k) ?_
  obtain ⟨z13, hz13⟩ : ∃ z : Int64, z = (if (2 : Int32) < nn then ve2 else (0 : Int64)) := ⟨_, rfl⟩
  refine own_pre (B := s₁.setTop (mkF m 52 #[.val (.ref a1), .val (.ref a2), .val (.double d3), .second, .val (.int nn), .val (.double (FP.l2d z5)), .second, .val (.double (FP.l2d z9)), .second, .unset, .unset, .unset, .unset, .unset, .unset, .unset, .unset, .unset, .unset, .unset, .unset, .unset] [(.double (FP.l2d z13))])) (fun t k => ?_) ?_
  · by_cases hc40_14 : (2 : Int32) < nn
    · refine XS.icmpNo X0.here hx rfl (hb hby d5_40) rfl (tlt hc40_14).2.2.2 ?_
      show Steps p.tables e below (s₁.setTop (mkF m 43 #[.val (.ref a1), .val (.ref a2), .val (.double d3), .second, .val (.int nn), .val (.double (FP.l2d z5)), .second, .val (.double (FP.l2d z9)), .second, .unset, .unset, .unset, .unset, .unset, .unset, .unset, .unset, .unset, .unset, .unset, .unset, .unset] [])) _
      refine XS.aloadN X0.here hx rfl (hb hby d5_43) rfl rfl ?_
      show Steps p.tables e below (s₁.setTop (mkF m 44 #[.val (.ref a1), .val (.ref a2), .val (.double d3), .second, .val (.int nn), .val (.double (FP.l2d z5)), .second, .val (.double (FP.l2d z9)), .second, .unset, .unset, .unset, .unset, .unset, .unset, .unset, .unset, .unset, .unset, .unset, .unset, .unset] [(.ref a1)])) _
      refine XS.aloadN X0.here hx rfl (hb hby d5_44) rfl rfl ?_
      show Steps p.tables e below (s₁.setTop (mkF m 45 #[.val (.ref a1), .val (.ref a2), .val (.double d3), .second, .val (.int nn), .val (.double (FP.l2d z5)), .second, .val (.double (FP.l2d z9)), .second, .unset, .unset, .unset, .unset, .unset, .unset, .unset, .unset, .unset, .unset, .unset, .unset, .unset] [(.ref a2), (.ref a1)])) _
      refine XS.iconst X0.here hx rfl (hb hby d5_45) ?_
      show Steps p.tables e below (s₁.setTop (mkF m 46 #[.val (.ref a1), .val (.ref a2), .val (.double d3), .second, .val (.int nn), .val (.double (FP.l2d z5)), .second, .val (.double (FP.l2d z9)), .second, .unset, .unset, .unset, .unset, .unset, .unset, .unset, .unset, .unset, .unset, .unset, .unset, .unset] [(.int (2 : Int32)), (.ref a2), (.ref a1)])) _
      obtain ⟨cl15, Ar15, q15, S15, N15v, H15v, G15v⟩ := V_a2
      have V_a2 : Arv Z h0 a2 k_a2 .int nn [(.int r0), (.int r1), (.int r2), (.int r3)] (.int (0 : Int32)) := ⟨cl15, Ar15, q15, S15, N15v, H15v, G15v⟩
      have hin15 : ¬ ((2 : Int32) < 0 ∨ cl15.slots.size ≤ ((2 : Int32)).toNatClampNeg) := inb_of S15 ⟨by decide, hc40_14⟩
      have hat15 : cl15.slots[((2 : Int32)).toNatClampNeg]? = some (.int r2) := H15v.at hin15 rfl
      refine X0.iaload hx (j := (2 : Int32)) (v := (.int r2)) (by rw [e0]; exact Ar15.1) (State.isArrayOf_alike hZ.alike Ar15.2.1) Ar15.2.2 hin15 hat15 (g := (mkF m 46 #[.val (.ref a1), .val (.ref a2), .val (.double d3), .second, .val (.int nn), .val (.double (FP.l2d z5)), .second, .val (.double (FP.l2d z9)), .second, .unset, .unset, .unset, .unset, .unset, .unset, .unset, .unset, .unset, .unset, .unset, .unset, .unset] [(.int (2 : Int32)), (.ref a2), (.ref a1)])) rfl rfl (hb hby d5_46) _ ?_
      show Steps p.tables e below (s₁.setTop (mkF m 47 #[.val (.ref a1), .val (.ref a2), .val (.double d3), .second, .val (.int nn), .val (.double (FP.l2d z5)), .second, .val (.double (FP.l2d z9)), .second, .unset, .unset, .unset, .unset, .unset, .unset, .unset, .unset, .unset, .unset, .unset, .unset, .unset] [(.int r2), (.ref a1)])) _
      obtain ⟨cl16, Ar16, q16, S16, N16v, H16v, G16v⟩ := V_a1
      have V_a1 : Arv Z h0 a1 k_a1 .double (8 : Int32) [(.double (FP.l2d w0)), (.double (FP.l2d w1)), (.double (FP.l2d w2)), (.double (FP.l2d w3)), (.double (FP.l2d w4)), (.double (FP.l2d w5)), (.double (FP.l2d w6)), (.double (FP.l2d w7))] (.double (FP.l2d (0 : Int64))) := ⟨cl16, Ar16, q16, S16, N16v, H16v, G16v⟩
      have hin16 : ¬ (r2 < 0 ∨ cl16.slots.size ≤ (r2).toNatClampNeg) := inb_of S16 hR2
      have hat16 : cl16.slots[(r2).toNatClampNeg]? = some (.double (FP.l2d ve2)) := H16v.at hin16 (own_getE hR2 hE2)
      refine X0.daload hx (j := r2) (v := (.double (FP.l2d ve2))) (by rw [e0]; exact Ar16.1) (State.isArrayOf_alike hZ.alike Ar16.2.1) Ar16.2.2 hin16 hat16 (g := (mkF m 47 #[.val (.ref a1), .val (.ref a2), .val (.double d3), .second, .val (.int nn), .val (.double (FP.l2d z5)), .second, .val (.double (FP.l2d z9)), .second, .unset, .unset, .unset, .unset, .unset, .unset, .unset, .unset, .unset, .unset, .unset, .unset, .unset] [(.int r2), (.ref a1)])) rfl rfl (hb hby d5_47) _ ?_
      show Steps p.tables e below (s₁.setTop (mkF m 48 #[.val (.ref a1), .val (.ref a2), .val (.double d3), .second, .val (.int nn), .val (.double (FP.l2d z5)), .second, .val (.double (FP.l2d z9)), .second, .unset, .unset, .unset, .unset, .unset, .unset, .unset, .unset, .unset, .unset, .unset, .unset, .unset] [(.double (FP.l2d ve2))])) _
      refine XS.goto X0.here hx rfl (pc0 := 48) (pc' := 52) rfl (hb hby d5_48) (by decide) (by decide) ?_
      show Steps p.tables e below (s₁.setTop (mkF m 52 #[.val (.ref a1), .val (.ref a2), .val (.double d3), .second, .val (.int nn), .val (.double (FP.l2d z5)), .second, .val (.double (FP.l2d z9)), .second, .unset, .unset, .unset, .unset, .unset, .unset, .unset, .unset, .unset, .unset, .unset, .unset, .unset] [(.double (FP.l2d ve2))])) _
      rw [if_pos hc40_14] at hz13
      subst hz13
      exact k
    · refine XS.icmpYes X0.here hx rfl (pc0 := 40) (pc' := 51) rfl (hb hby d5_40) rfl (flt hc40_14).2.2.2 (by decide) (by decide) ?_
      show Steps p.tables e below (s₁.setTop (mkF m 51 #[.val (.ref a1), .val (.ref a2), .val (.double d3), .second, .val (.int nn), .val (.double (FP.l2d z5)), .second, .val (.double (FP.l2d z9)), .second, .unset, .unset, .unset, .unset, .unset, .unset, .unset, .unset, .unset, .unset, .unset, .unset, .unset] [])) _
      refine XS.dconst0 X0.here hx rfl (hb hby d5_51) own_dc0 ?_
      show Steps p.tables e below (s₁.setTop (mkF m 52 #[.val (.ref a1), .val (.ref a2), .val (.double d3), .second, .val (.int nn), .val (.double (FP.l2d z5)), .second, .val (.double (FP.l2d z9)), .second, .unset, .unset, .unset, .unset, .unset, .unset, .unset, .unset, .unset, .unset, .unset, .unset, .unset] [(.double (FP.l2d (0 : Int64)))])) _
      rw [if_neg hc40_14] at hz13
      subst hz13
      exact k
  refine own_pre (B := s₁.setTop (mkF m 54 #[.val (.ref a1), .val (.ref a2), .val (.double d3), .second, .val (.int nn), .val (.double (FP.l2d z5)), .second, .val (.double (FP.l2d z9)), .second, .val (.double (FP.l2d z13)), .second, .unset, .unset, .unset, .unset, .unset, .unset, .unset, .unset, .unset, .unset, .unset] [])) (fun t k => XS.dstore X0.here hx rfl (hb hby d5_52) rfl (l' := #[.val (.ref a1), .val (.ref a2), .val (.double d3), .second, .val (.int nn), .val (.double (FP.l2d z5)), .second, .val (.double (FP.l2d z9)), .second, .val (.double (FP.l2d z13)), .second, .unset, .unset, .unset, .unset, .unset, .unset, .unset, .unset, .unset, .unset, .unset]) rfl k) ?_
  refine own_pre (B := s₁.setTop (mkF m 56 #[.val (.ref a1), .val (.ref a2), .val (.double d3), .second, .val (.int nn), .val (.double (FP.l2d z5)), .second, .val (.double (FP.l2d z9)), .second, .val (.double (FP.l2d z13)), .second, .unset, .unset, .unset, .unset, .unset, .unset, .unset, .unset, .unset, .unset, .unset] [(.int nn)])) (fun t k => XS.iload X0.here hx rfl (hb hby d5_54) rfl k) ?_
  refine own_pre (B := s₁.setTop (mkF m 57 #[.val (.ref a1), .val (.ref a2), .val (.double d3), .second, .val (.int nn), .val (.double (FP.l2d z5)), .second, .val (.double (FP.l2d z9)), .second, .val (.double (FP.l2d z13)), .second, .unset, .unset, .unset, .unset, .unset, .unset, .unset, .unset, .unset, .unset, .unset] [(.int (3 : Int32)), (.int nn)])) (fun t k => XS.iconst X0.here hx rfl (hb hby d5_56) k) ?_
  obtain ⟨z17, hz17⟩ : ∃ z : Int64, z = (if (3 : Int32) < nn then ve3 else (0 : Int64)) := ⟨_, rfl⟩
  refine own_pre (B := s₁.setTop (mkF m 69 #[.val (.ref a1), .val (.ref a2), .val (.double d3), .second, .val (.int nn), .val (.double (FP.l2d z5)), .second, .val (.double (FP.l2d z9)), .second, .val (.double (FP.l2d z13)), .second, .unset, .unset, .unset, .unset, .unset, .unset, .unset, .unset, .unset, .unset, .unset] [(.double (FP.l2d z17))])) (fun t k => ?_) ?_
  · by_cases hc57_18 : (3 : Int32) < nn
    · refine XS.icmpNo X0.here hx rfl (hb hby d5_57) rfl (tlt hc57_18).2.2.2 ?_
      show Steps p.tables e below (s₁.setTop (mkF m 60 #[.val (.ref a1), .val (.ref a2), .val (.double d3), .second, .val (.int nn), .val (.double (FP.l2d z5)), .second, .val (.double (FP.l2d z9)), .second, .val (.double (FP.l2d z13)), .second, .unset, .unset, .unset, .unset, .unset, .unset, .unset, .unset, .unset, .unset, .unset] [])) _
      refine XS.aloadN X0.here hx rfl (hb hby d5_60) rfl rfl ?_
      show Steps p.tables e below (s₁.setTop (mkF m 61 #[.val (.ref a1), .val (.ref a2), .val (.double d3), .second, .val (.int nn), .val (.double (FP.l2d z5)), .second, .val (.double (FP.l2d z9)), .second, .val (.double (FP.l2d z13)), .second, .unset, .unset, .unset, .unset, .unset, .unset, .unset, .unset, .unset, .unset, .unset] [(.ref a1)])) _
      refine XS.aloadN X0.here hx rfl (hb hby d5_61) rfl rfl ?_
      show Steps p.tables e below (s₁.setTop (mkF m 62 #[.val (.ref a1), .val (.ref a2), .val (.double d3), .second, .val (.int nn), .val (.double (FP.l2d z5)), .second, .val (.double (FP.l2d z9)), .second, .val (.double (FP.l2d z13)), .second, .unset, .unset, .unset, .unset, .unset, .unset, .unset, .unset, .unset, .unset, .unset] [(.ref a2), (.ref a1)])) _
      refine XS.iconst X0.here hx rfl (hb hby d5_62) ?_
      show Steps p.tables e below (s₁.setTop (mkF m 63 #[.val (.ref a1), .val (.ref a2), .val (.double d3), .second, .val (.int nn), .val (.double (FP.l2d z5)), .second, .val (.double (FP.l2d z9)), .second, .val (.double (FP.l2d z13)), .second, .unset, .unset, .unset, .unset, .unset, .unset, .unset, .unset, .unset, .unset, .unset] [(.int (3 : Int32)), (.ref a2), (.ref a1)])) _
      obtain ⟨cl19, Ar19, q19, S19, N19v, H19v, G19v⟩ := V_a2
      have V_a2 : Arv Z h0 a2 k_a2 .int nn [(.int r0), (.int r1), (.int r2), (.int r3)] (.int (0 : Int32)) := ⟨cl19, Ar19, q19, S19, N19v, H19v, G19v⟩
      have hin19 : ¬ ((3 : Int32) < 0 ∨ cl19.slots.size ≤ ((3 : Int32)).toNatClampNeg) := inb_of S19 ⟨by decide, hc57_18⟩
      have hat19 : cl19.slots[((3 : Int32)).toNatClampNeg]? = some (.int r3) := H19v.at hin19 rfl
      refine X0.iaload hx (j := (3 : Int32)) (v := (.int r3)) (by rw [e0]; exact Ar19.1) (State.isArrayOf_alike hZ.alike Ar19.2.1) Ar19.2.2 hin19 hat19 (g := (mkF m 63 #[.val (.ref a1), .val (.ref a2), .val (.double d3), .second, .val (.int nn), .val (.double (FP.l2d z5)), .second, .val (.double (FP.l2d z9)), .second, .val (.double (FP.l2d z13)), .second, .unset, .unset, .unset, .unset, .unset, .unset, .unset, .unset, .unset, .unset, .unset] [(.int (3 : Int32)), (.ref a2), (.ref a1)])) rfl rfl (hb hby d5_63) _ ?_
      show Steps p.tables e below (s₁.setTop (mkF m 64 #[.val (.ref a1), .val (.ref a2), .val (.double d3), .second, .val (.int nn), .val (.double (FP.l2d z5)), .second, .val (.double (FP.l2d z9)), .second, .val (.double (FP.l2d z13)), .second, .unset, .unset, .unset, .unset, .unset, .unset, .unset, .unset, .unset, .unset, .unset] [(.int r3), (.ref a1)])) _
      obtain ⟨cl20, Ar20, q20, S20, N20v, H20v, G20v⟩ := V_a1
      have V_a1 : Arv Z h0 a1 k_a1 .double (8 : Int32) [(.double (FP.l2d w0)), (.double (FP.l2d w1)), (.double (FP.l2d w2)), (.double (FP.l2d w3)), (.double (FP.l2d w4)), (.double (FP.l2d w5)), (.double (FP.l2d w6)), (.double (FP.l2d w7))] (.double (FP.l2d (0 : Int64))) := ⟨cl20, Ar20, q20, S20, N20v, H20v, G20v⟩
      have hin20 : ¬ (r3 < 0 ∨ cl20.slots.size ≤ (r3).toNatClampNeg) := inb_of S20 hR3
      have hat20 : cl20.slots[(r3).toNatClampNeg]? = some (.double (FP.l2d ve3)) := H20v.at hin20 (own_getE hR3 hE3)
      refine X0.daload hx (j := r3) (v := (.double (FP.l2d ve3))) (by rw [e0]; exact Ar20.1) (State.isArrayOf_alike hZ.alike Ar20.2.1) Ar20.2.2 hin20 hat20 (g := (mkF m 64 #[.val (.ref a1), .val (.ref a2), .val (.double d3), .second, .val (.int nn), .val (.double (FP.l2d z5)), .second, .val (.double (FP.l2d z9)), .second, .val (.double (FP.l2d z13)), .second, .unset, .unset, .unset, .unset, .unset, .unset, .unset, .unset, .unset, .unset, .unset] [(.int r3), (.ref a1)])) rfl rfl (hb hby d5_64) _ ?_
      show Steps p.tables e below (s₁.setTop (mkF m 65 #[.val (.ref a1), .val (.ref a2), .val (.double d3), .second, .val (.int nn), .val (.double (FP.l2d z5)), .second, .val (.double (FP.l2d z9)), .second, .val (.double (FP.l2d z13)), .second, .unset, .unset, .unset, .unset, .unset, .unset, .unset, .unset, .unset, .unset, .unset] [(.double (FP.l2d ve3))])) _
      refine XS.goto X0.here hx rfl (pc0 := 65) (pc' := 69) rfl (hb hby d5_65) (by decide) (by decide) ?_
      show Steps p.tables e below (s₁.setTop (mkF m 69 #[.val (.ref a1), .val (.ref a2), .val (.double d3), .second, .val (.int nn), .val (.double (FP.l2d z5)), .second, .val (.double (FP.l2d z9)), .second, .val (.double (FP.l2d z13)), .second, .unset, .unset, .unset, .unset, .unset, .unset, .unset, .unset, .unset, .unset, .unset] [(.double (FP.l2d ve3))])) _
      rw [if_pos hc57_18] at hz17
      subst hz17
      exact k
    · refine XS.icmpYes X0.here hx rfl (pc0 := 57) (pc' := 68) rfl (hb hby d5_57) rfl (flt hc57_18).2.2.2 (by decide) (by decide) ?_
      show Steps p.tables e below (s₁.setTop (mkF m 68 #[.val (.ref a1), .val (.ref a2), .val (.double d3), .second, .val (.int nn), .val (.double (FP.l2d z5)), .second, .val (.double (FP.l2d z9)), .second, .val (.double (FP.l2d z13)), .second, .unset, .unset, .unset, .unset, .unset, .unset, .unset, .unset, .unset, .unset, .unset] [])) _
      refine XS.dconst0 X0.here hx rfl (hb hby d5_68) own_dc0 ?_
      show Steps p.tables e below (s₁.setTop (mkF m 69 #[.val (.ref a1), .val (.ref a2), .val (.double d3), .second, .val (.int nn), .val (.double (FP.l2d z5)), .second, .val (.double (FP.l2d z9)), .second, .val (.double (FP.l2d z13)), .second, .unset, .unset, .unset, .unset, .unset, .unset, .unset, .unset, .unset, .unset, .unset] [(.double (FP.l2d (0 : Int64)))])) _
      rw [if_neg hc57_18] at hz17
      subst hz17
      exact k
  refine own_pre (B := s₁.setTop (mkF m 71 #[.val (.ref a1), .val (.ref a2), .val (.double d3), .second, .val (.int nn), .val (.double (FP.l2d z5)), .second, .val (.double (FP.l2d z9)), .second, .val (.double (FP.l2d z13)), .second, .val (.double (FP.l2d z17)), .second, .unset, .unset, .unset, .unset, .unset, .unset, .unset, .unset, .unset] [])) (fun t k => XS.dstore X0.here hx rfl (hb hby d5_69) rfl (l' := #[.val (.ref a1), .val (.ref a2), .val (.double d3), .second, .val (.int nn), .val (.double (FP.l2d z5)), .second, .val (.double (FP.l2d z9)), .second, .val (.double (FP.l2d z13)), .second, .val (.double (FP.l2d z17)), .second, .unset, .unset, .unset, .unset, .unset, .unset, .unset, .unset, .unset]) rfl k) ?_
  refine own_pre (B := s₁.setTop (mkF m 73 #[.val (.ref a1), .val (.ref a2), .val (.double d3), .second, .val (.int nn), .val (.double (FP.l2d z5)), .second, .val (.double (FP.l2d z9)), .second, .val (.double (FP.l2d z13)), .second, .val (.double (FP.l2d z17)), .second, .unset, .unset, .unset, .unset, .unset, .unset, .unset, .unset, .unset] [(.double (FP.l2d z17))])) (fun t k => XS.dload X0.here hx rfl (hb hby d5_71) rfl k) ?_
  refine own_pre (B := s₁.setTop (mkF m 75 #[.val (.ref a1), .val (.ref a2), .val (.double d3), .second, .val (.int nn), .val (.double (FP.l2d z5)), .second, .val (.double (FP.l2d z9)), .second, .val (.double (FP.l2d z13)), .second, .val (.double (FP.l2d z17)), .second, .val (.double (FP.l2d z17)), .second, .unset, .unset, .unset, .unset, .unset, .unset, .unset] [])) (fun t k => XS.dstore X0.here hx rfl (hb hby d5_73) rfl (l' := #[.val (.ref a1), .val (.ref a2), .val (.double d3), .second, .val (.int nn), .val (.double (FP.l2d z5)), .second, .val (.double (FP.l2d z9)), .second, .val (.double (FP.l2d z13)), .second, .val (.double (FP.l2d z17)), .second, .val (.double (FP.l2d z17)), .second, .unset, .unset, .unset, .unset, .unset, .unset, .unset]) rfl k) ?_
  refine own_pre (B := s₁.setTop (mkF m 77 #[.val (.ref a1), .val (.ref a2), .val (.double d3), .second, .val (.int nn), .val (.double (FP.l2d z5)), .second, .val (.double (FP.l2d z9)), .second, .val (.double (FP.l2d z13)), .second, .val (.double (FP.l2d z17)), .second, .val (.double (FP.l2d z17)), .second, .unset, .unset, .unset, .unset, .unset, .unset, .unset] [(.double (FP.l2d z13))])) (fun t k => XS.dload X0.here hx rfl (hb hby d5_75) rfl k) ?_
  refine own_pre (B := s₁.setTop (mkF m 79 #[.val (.ref a1), .val (.ref a2), .val (.double d3), .second, .val (.int nn), .val (.double (FP.l2d z5)), .second, .val (.double (FP.l2d z9)), .second, .val (.double (FP.l2d z13)), .second, .val (.double (FP.l2d z17)), .second, .val (.double (FP.l2d z17)), .second, .unset, .unset, .unset, .unset, .unset, .unset, .unset] [(.double (FP.l2d z17)), (.double (FP.l2d z13))])) (fun t k => XS.dload X0.here hx rfl (hb hby d5_77) rfl k) ?_
  refine own_pre (B := s₁.setTop (mkF m 80 #[.val (.ref a1), .val (.ref a2), .val (.double d3), .second, .val (.int nn), .val (.double (FP.l2d z5)), .second, .val (.double (FP.l2d z9)), .second, .val (.double (FP.l2d z13)), .second, .val (.double (FP.l2d z17)), .second, .val (.double (FP.l2d z17)), .second, .unset, .unset, .unset, .unset, .unset, .unset, .unset] [(.double (FP.l2d (z13 + z17)))])) (fun t k => XS.daddS X0.here hx rfl (hb hby d5_79) rfl (nn_w (own_add (own_Bz hz13 hB2) (own_Bz hz17 hB3) (by decide))) (own_add (own_Bz hz13 hB2) (own_Bz hz17 hB3) (by decide)) k) ?_
  refine own_pre (B := s₁.setTop (mkF m 82 #[.val (.ref a1), .val (.ref a2), .val (.double d3), .second, .val (.int nn), .val (.double (FP.l2d z5)), .second, .val (.double (FP.l2d z9)), .second, .val (.double (FP.l2d z13)), .second, .val (.double (FP.l2d z17)), .second, .val (.double (FP.l2d z17)), .second, .val (.double (FP.l2d (z13 + z17))), .second, .unset, .unset, .unset, .unset, .unset] [])) (fun t k => XS.dstore X0.here hx rfl (hb hby d5_80) rfl (l' := #[.val (.ref a1), .val (.ref a2), .val (.double d3), .second, .val (.int nn), .val (.double (FP.l2d z5)), .second, .val (.double (FP.l2d z9)), .second, .val (.double (FP.l2d z13)), .second, .val (.double (FP.l2d z17)), .second, .val (.double (FP.l2d z17)), .second, .val (.double (FP.l2d (z13 + z17))), .second, .unset, .unset, .unset, .unset, .unset]) rfl k) ?_
  refine own_pre (B := s₁.setTop (mkF m 84 #[.val (.ref a1), .val (.ref a2), .val (.double d3), .second, .val (.int nn), .val (.double (FP.l2d z5)), .second, .val (.double (FP.l2d z9)), .second, .val (.double (FP.l2d z13)), .second, .val (.double (FP.l2d z17)), .second, .val (.double (FP.l2d z17)), .second, .val (.double (FP.l2d (z13 + z17))), .second, .unset, .unset, .unset, .unset, .unset] [(.double (FP.l2d z9))])) (fun t k => XS.dload X0.here hx rfl (hb hby d5_82) rfl k) ?_
  refine own_pre (B := s₁.setTop (mkF m 86 #[.val (.ref a1), .val (.ref a2), .val (.double d3), .second, .val (.int nn), .val (.double (FP.l2d z5)), .second, .val (.double (FP.l2d z9)), .second, .val (.double (FP.l2d z13)), .second, .val (.double (FP.l2d z17)), .second, .val (.double (FP.l2d z17)), .second, .val (.double (FP.l2d (z13 + z17))), .second, .unset, .unset, .unset, .unset, .unset] [(.double (FP.l2d (z13 + z17))), (.double (FP.l2d z9))])) (fun t k => XS.dload X0.here hx rfl (hb hby d5_84) rfl k) ?_
  refine own_pre (B := s₁.setTop (mkF m 87 #[.val (.ref a1), .val (.ref a2), .val (.double d3), .second, .val (.int nn), .val (.double (FP.l2d z5)), .second, .val (.double (FP.l2d z9)), .second, .val (.double (FP.l2d z13)), .second, .val (.double (FP.l2d z17)), .second, .val (.double (FP.l2d z17)), .second, .val (.double (FP.l2d (z13 + z17))), .second, .unset, .unset, .unset, .unset, .unset] [(.double (FP.l2d (z9 + (z13 + z17))))])) (fun t k => XS.daddS X0.here hx rfl (hb hby d5_86) rfl (nn_w (own_add (own_Bz hz9 hB1) (own_Badd (own_Bz hz13 hB2) (own_Bz hz17 hB3) (by decide)) (by decide))) (own_add (own_Bz hz9 hB1) (own_Badd (own_Bz hz13 hB2) (own_Bz hz17 hB3) (by decide)) (by decide)) k) ?_
  refine own_pre (B := s₁.setTop (mkF m 89 #[.val (.ref a1), .val (.ref a2), .val (.double d3), .second, .val (.int nn), .val (.double (FP.l2d z5)), .second, .val (.double (FP.l2d z9)), .second, .val (.double (FP.l2d z13)), .second, .val (.double (FP.l2d z17)), .second, .val (.double (FP.l2d z17)), .second, .val (.double (FP.l2d (z13 + z17))), .second, .val (.double (FP.l2d (z9 + (z13 + z17)))), .second, .unset, .unset, .unset] [])) (fun t k => XS.dstore X0.here hx rfl (hb hby d5_87) rfl (l' := #[.val (.ref a1), .val (.ref a2), .val (.double d3), .second, .val (.int nn), .val (.double (FP.l2d z5)), .second, .val (.double (FP.l2d z9)), .second, .val (.double (FP.l2d z13)), .second, .val (.double (FP.l2d z17)), .second, .val (.double (FP.l2d z17)), .second, .val (.double (FP.l2d (z13 + z17))), .second, .val (.double (FP.l2d (z9 + (z13 + z17)))), .second, .unset, .unset, .unset]) rfl k) ?_
  refine own_pre (B := s₁.setTop (mkF m 91 #[.val (.ref a1), .val (.ref a2), .val (.double d3), .second, .val (.int nn), .val (.double (FP.l2d z5)), .second, .val (.double (FP.l2d z9)), .second, .val (.double (FP.l2d z13)), .second, .val (.double (FP.l2d z17)), .second, .val (.double (FP.l2d z17)), .second, .val (.double (FP.l2d (z13 + z17))), .second, .val (.double (FP.l2d (z9 + (z13 + z17)))), .second, .unset, .unset, .unset] [(.double (FP.l2d z5))])) (fun t k => XS.dload X0.here hx rfl (hb hby d5_89) rfl k) ?_
  refine own_pre (B := s₁.setTop (mkF m 93 #[.val (.ref a1), .val (.ref a2), .val (.double d3), .second, .val (.int nn), .val (.double (FP.l2d z5)), .second, .val (.double (FP.l2d z9)), .second, .val (.double (FP.l2d z13)), .second, .val (.double (FP.l2d z17)), .second, .val (.double (FP.l2d z17)), .second, .val (.double (FP.l2d (z13 + z17))), .second, .val (.double (FP.l2d (z9 + (z13 + z17)))), .second, .unset, .unset, .unset] [(.double (FP.l2d (z9 + (z13 + z17)))), (.double (FP.l2d z5))])) (fun t k => XS.dload X0.here hx rfl (hb hby d5_91) rfl k) ?_
  refine own_pre (B := s₁.setTop (mkF m 94 #[.val (.ref a1), .val (.ref a2), .val (.double d3), .second, .val (.int nn), .val (.double (FP.l2d z5)), .second, .val (.double (FP.l2d z9)), .second, .val (.double (FP.l2d z13)), .second, .val (.double (FP.l2d z17)), .second, .val (.double (FP.l2d z17)), .second, .val (.double (FP.l2d (z13 + z17))), .second, .val (.double (FP.l2d (z9 + (z13 + z17)))), .second, .unset, .unset, .unset] [(.double (FP.l2d (z5 + (z9 + (z13 + z17)))))])) (fun t k => XS.daddS X0.here hx rfl (hb hby d5_93) rfl (nn_w (own_add (own_Bz hz5 hB0) (own_Badd (own_Bz hz9 hB1) (own_Badd (own_Bz hz13 hB2) (own_Bz hz17 hB3) (by decide)) (by decide)) (by decide))) (own_add (own_Bz hz5 hB0) (own_Badd (own_Bz hz9 hB1) (own_Badd (own_Bz hz13 hB2) (own_Bz hz17 hB3) (by decide)) (by decide)) (by decide)) k) ?_
  refine own_pre (B := s₁.setTop (mkF m 96 #[.val (.ref a1), .val (.ref a2), .val (.double d3), .second, .val (.int nn), .val (.double (FP.l2d z5)), .second, .val (.double (FP.l2d z9)), .second, .val (.double (FP.l2d z13)), .second, .val (.double (FP.l2d z17)), .second, .val (.double (FP.l2d z17)), .second, .val (.double (FP.l2d (z13 + z17))), .second, .val (.double (FP.l2d (z9 + (z13 + z17)))), .second, .val (.double (FP.l2d (z5 + (z9 + (z13 + z17))))), .second, .unset] [])) (fun t k => XS.dstore X0.here hx rfl (hb hby d5_94) rfl (l' := #[.val (.ref a1), .val (.ref a2), .val (.double d3), .second, .val (.int nn), .val (.double (FP.l2d z5)), .second, .val (.double (FP.l2d z9)), .second, .val (.double (FP.l2d z13)), .second, .val (.double (FP.l2d z17)), .second, .val (.double (FP.l2d z17)), .second, .val (.double (FP.l2d (z13 + z17))), .second, .val (.double (FP.l2d (z9 + (z13 + z17)))), .second, .val (.double (FP.l2d (z5 + (z9 + (z13 + z17))))), .second, .unset]) rfl k) ?_
  refine own_pre (B := s₁.setTop (mkF m 97 #[.val (.ref a1), .val (.ref a2), .val (.double d3), .second, .val (.int nn), .val (.double (FP.l2d z5)), .second, .val (.double (FP.l2d z9)), .second, .val (.double (FP.l2d z13)), .second, .val (.double (FP.l2d z17)), .second, .val (.double (FP.l2d z17)), .second, .val (.double (FP.l2d (z13 + z17))), .second, .val (.double (FP.l2d (z9 + (z13 + z17)))), .second, .val (.double (FP.l2d (z5 + (z9 + (z13 + z17))))), .second, .unset] [(.int (0 : Int32))])) (fun t k => XS.iconst X0.here hx rfl (hb hby d5_96) k) ?_
  refine own_pre (B := s₁.setTop (mkF m 99 #[.val (.ref a1), .val (.ref a2), .val (.double d3), .second, .val (.int nn), .val (.double (FP.l2d z5)), .second, .val (.double (FP.l2d z9)), .second, .val (.double (FP.l2d z13)), .second, .val (.double (FP.l2d z17)), .second, .val (.double (FP.l2d z17)), .second, .val (.double (FP.l2d (z13 + z17))), .second, .val (.double (FP.l2d (z9 + (z13 + z17)))), .second, .val (.double (FP.l2d (z5 + (z9 + (z13 + z17))))), .second, .val (.int (0 : Int32))] [])) (fun t k => XS.istore X0.here hx rfl (hb hby d5_97) rfl (l' := #[.val (.ref a1), .val (.ref a2), .val (.double d3), .second, .val (.int nn), .val (.double (FP.l2d z5)), .second, .val (.double (FP.l2d z9)), .second, .val (.double (FP.l2d z13)), .second, .val (.double (FP.l2d z17)), .second, .val (.double (FP.l2d z17)), .second, .val (.double (FP.l2d (z13 + z17))), .second, .val (.double (FP.l2d (z9 + (z13 + z17)))), .second, .val (.double (FP.l2d (z5 + (z9 + (z13 + z17))))), .second, .val (.int (0 : Int32))]) rfl k) ?_
  refine own_pre (B := s₁.setTop (mkF m 101 #[.val (.ref a1), .val (.ref a2), .val (.double d3), .second, .val (.int nn), .val (.double (FP.l2d z5)), .second, .val (.double (FP.l2d z9)), .second, .val (.double (FP.l2d z13)), .second, .val (.double (FP.l2d z17)), .second, .val (.double (FP.l2d z17)), .second, .val (.double (FP.l2d (z13 + z17))), .second, .val (.double (FP.l2d (z9 + (z13 + z17)))), .second, .val (.double (FP.l2d (z5 + (z9 + (z13 + z17))))), .second, .val (.int (0 : Int32))] [(.int nn)])) (fun t k => XS.iload X0.here hx rfl (hb hby d5_99) rfl k) ?_
  obtain ⟨z21, hz21⟩ : ∃ z : Int32, z = (if (0 : Int32) < nn then (if ((z5 + (z9 + (z13 + z17))) + (z5 + (z9 + (z13 + z17)))) < kq then (0 : Int32) else ((0 : Int32) + (1 : Int32))) else (0 : Int32)) := ⟨_, rfl⟩
  refine own_pre (B := s₁.setTop (mkF m 114 #[.val (.ref a1), .val (.ref a2), .val (.double d3), .second, .val (.int nn), .val (.double (FP.l2d z5)), .second, .val (.double (FP.l2d z9)), .second, .val (.double (FP.l2d z13)), .second, .val (.double (FP.l2d z17)), .second, .val (.double (FP.l2d z17)), .second, .val (.double (FP.l2d (z13 + z17))), .second, .val (.double (FP.l2d (z9 + (z13 + z17)))), .second, .val (.double (FP.l2d (z5 + (z9 + (z13 + z17))))), .second, .val (.int z21)] [])) (fun t k => ?_) ?_
  · by_cases hc101_22 : (0 : Int32) < nn
    · refine XS.ifNo X0.here hx rfl (hb hby d5_101) rfl ((if0 _ _).trans (tlt hc101_22).2.2.2) ?_
      show Steps p.tables e below (s₁.setTop (mkF m 104 #[.val (.ref a1), .val (.ref a2), .val (.double d3), .second, .val (.int nn), .val (.double (FP.l2d z5)), .second, .val (.double (FP.l2d z9)), .second, .val (.double (FP.l2d z13)), .second, .val (.double (FP.l2d z17)), .second, .val (.double (FP.l2d z17)), .second, .val (.double (FP.l2d (z13 + z17))), .second, .val (.double (FP.l2d (z9 + (z13 + z17)))), .second, .val (.double (FP.l2d (z5 + (z9 + (z13 + z17))))), .second, .val (.int (0 : Int32))] [])) _
      refine XS.dload X0.here hx rfl (hb hby d5_104) rfl ?_
      show Steps p.tables e below (s₁.setTop (mkF m 106 #[.val (.ref a1), .val (.ref a2), .val (.double d3), .second, .val (.int nn), .val (.double (FP.l2d z5)), .second, .val (.double (FP.l2d z9)), .second, .val (.double (FP.l2d z13)), .second, .val (.double (FP.l2d z17)), .second, .val (.double (FP.l2d z17)), .second, .val (.double (FP.l2d (z13 + z17))), .second, .val (.double (FP.l2d (z9 + (z13 + z17)))), .second, .val (.double (FP.l2d (z5 + (z9 + (z13 + z17))))), .second, .val (.int (0 : Int32))] [(.double (FP.l2d (z5 + (z9 + (z13 + z17)))))])) _
      refine XS.dloadN X0.here hx rfl (hb hby d5_106) rfl ?_
      show Steps p.tables e below (s₁.setTop (mkF m 107 #[.val (.ref a1), .val (.ref a2), .val (.double d3), .second, .val (.int nn), .val (.double (FP.l2d z5)), .second, .val (.double (FP.l2d z9)), .second, .val (.double (FP.l2d z13)), .second, .val (.double (FP.l2d z17)), .second, .val (.double (FP.l2d z17)), .second, .val (.double (FP.l2d (z13 + z17))), .second, .val (.double (FP.l2d (z9 + (z13 + z17)))), .second, .val (.double (FP.l2d (z5 + (z9 + (z13 + z17))))), .second, .val (.int (0 : Int32))] [(.double d3), (.double (FP.l2d (z5 + (z9 + (z13 + z17)))))])) _
      refine XS.dcmpS X0.here hx rfl (hb hby d5_107) rfl (own_cmpd hd (own_Badd (own_Bz hz5 hB0) (own_Badd (own_Bz hz9 hB1) (own_Badd (own_Bz hz13 hB2) (own_Bz hz17 hB3) (by decide)) (by decide)) (by decide)) (by decide) hk _) ?_
      show Steps p.tables e below (s₁.setTop (mkF m 108 #[.val (.ref a1), .val (.ref a2), .val (.double d3), .second, .val (.int nn), .val (.double (FP.l2d z5)), .second, .val (.double (FP.l2d z9)), .second, .val (.double (FP.l2d z13)), .second, .val (.double (FP.l2d z17)), .second, .val (.double (FP.l2d z17)), .second, .val (.double (FP.l2d (z13 + z17))), .second, .val (.double (FP.l2d (z9 + (z13 + z17)))), .second, .val (.double (FP.l2d (z5 + (z9 + (z13 + z17))))), .second, .val (.int (0 : Int32))] [(.int (lcmpW ((z5 + (z9 + (z13 + z17))) + (z5 + (z9 + (z13 + z17)))) kq))])) _
      by_cases hc108_23 : ((z5 + (z9 + (z13 + z17))) + (z5 + (z9 + (z13 + z17)))) < kq
      · refine XS.ifYes X0.here hx rfl (pc0 := 108) (pc' := 114) rfl (hb hby d5_108) rfl ((if0 _ _).trans (tlt ((lw_lt ((z5 + (z9 + (z13 + z17))) + (z5 + (z9 + (z13 + z17)))) kq).mpr hc108_23)).1) (by decide) (by decide) ?_
        show Steps p.tables e below (s₁.setTop (mkF m 114 #[.val (.ref a1), .val (.ref a2), .val (.double d3), .second, .val (.int nn), .val (.double (FP.l2d z5)), .second, .val (.double (FP.l2d z9)), .second, .val (.double (FP.l2d z13)), .second, .val (.double (FP.l2d z17)), .second, .val (.double (FP.l2d z17)), .second, .val (.double (FP.l2d (z13 + z17))), .second, .val (.double (FP.l2d (z9 + (z13 + z17)))), .second, .val (.double (FP.l2d (z5 + (z9 + (z13 + z17))))), .second, .val (.int (0 : Int32))] [])) _
        rw [if_pos hc101_22, if_pos hc108_23] at hz21
        subst hz21
        exact k
      · refine XS.ifNo X0.here hx rfl (hb hby d5_108) rfl ((if0 _ _).trans (flt (mt (lw_lt ((z5 + (z9 + (z13 + z17))) + (z5 + (z9 + (z13 + z17)))) kq).mp hc108_23)).1) ?_
        show Steps p.tables e below (s₁.setTop (mkF m 111 #[.val (.ref a1), .val (.ref a2), .val (.double d3), .second, .val (.int nn), .val (.double (FP.l2d z5)), .second, .val (.double (FP.l2d z9)), .second, .val (.double (FP.l2d z13)), .second, .val (.double (FP.l2d z17)), .second, .val (.double (FP.l2d z17)), .second, .val (.double (FP.l2d (z13 + z17))), .second, .val (.double (FP.l2d (z9 + (z13 + z17)))), .second, .val (.double (FP.l2d (z5 + (z9 + (z13 + z17))))), .second, .val (.int (0 : Int32))] [])) _
        refine XS.iinc X0.here hx rfl (hb hby d5_111) rfl (l' := #[.val (.ref a1), .val (.ref a2), .val (.double d3), .second, .val (.int nn), .val (.double (FP.l2d z5)), .second, .val (.double (FP.l2d z9)), .second, .val (.double (FP.l2d z13)), .second, .val (.double (FP.l2d z17)), .second, .val (.double (FP.l2d z17)), .second, .val (.double (FP.l2d (z13 + z17))), .second, .val (.double (FP.l2d (z9 + (z13 + z17)))), .second, .val (.double (FP.l2d (z5 + (z9 + (z13 + z17))))), .second, .val (.int ((0 : Int32) + (1 : Int32)))]) rfl ?_
        show Steps p.tables e below (s₁.setTop (mkF m 114 #[.val (.ref a1), .val (.ref a2), .val (.double d3), .second, .val (.int nn), .val (.double (FP.l2d z5)), .second, .val (.double (FP.l2d z9)), .second, .val (.double (FP.l2d z13)), .second, .val (.double (FP.l2d z17)), .second, .val (.double (FP.l2d z17)), .second, .val (.double (FP.l2d (z13 + z17))), .second, .val (.double (FP.l2d (z9 + (z13 + z17)))), .second, .val (.double (FP.l2d (z5 + (z9 + (z13 + z17))))), .second, .val (.int ((0 : Int32) + (1 : Int32)))] [])) _
        rw [if_pos hc101_22, if_neg hc108_23] at hz21
        subst hz21
        exact k
    · refine XS.ifYes X0.here hx rfl (pc0 := 101) (pc' := 114) rfl (hb hby d5_101) rfl ((if0 _ _).trans (flt hc101_22).2.2.2) (by decide) (by decide) ?_
      show Steps p.tables e below (s₁.setTop (mkF m 114 #[.val (.ref a1), .val (.ref a2), .val (.double d3), .second, .val (.int nn), .val (.double (FP.l2d z5)), .second, .val (.double (FP.l2d z9)), .second, .val (.double (FP.l2d z13)), .second, .val (.double (FP.l2d z17)), .second, .val (.double (FP.l2d z17)), .second, .val (.double (FP.l2d (z13 + z17))), .second, .val (.double (FP.l2d (z9 + (z13 + z17)))), .second, .val (.double (FP.l2d (z5 + (z9 + (z13 + z17))))), .second, .val (.int (0 : Int32))] [])) _
      rw [if_neg hc101_22] at hz21
      subst hz21
      exact k
  refine own_pre (B := s₁.setTop (mkF m 116 #[.val (.ref a1), .val (.ref a2), .val (.double d3), .second, .val (.int nn), .val (.double (FP.l2d z5)), .second, .val (.double (FP.l2d z9)), .second, .val (.double (FP.l2d z13)), .second, .val (.double (FP.l2d z17)), .second, .val (.double (FP.l2d z17)), .second, .val (.double (FP.l2d (z13 + z17))), .second, .val (.double (FP.l2d (z9 + (z13 + z17)))), .second, .val (.double (FP.l2d (z5 + (z9 + (z13 + z17))))), .second, .val (.int z21)] [(.int nn)])) (fun t k => XS.iload X0.here hx rfl (hb hby d5_114) rfl k) ?_
  refine own_pre (B := s₁.setTop (mkF m 117 #[.val (.ref a1), .val (.ref a2), .val (.double d3), .second, .val (.int nn), .val (.double (FP.l2d z5)), .second, .val (.double (FP.l2d z9)), .second, .val (.double (FP.l2d z13)), .second, .val (.double (FP.l2d z17)), .second, .val (.double (FP.l2d z17)), .second, .val (.double (FP.l2d (z13 + z17))), .second, .val (.double (FP.l2d (z9 + (z13 + z17)))), .second, .val (.double (FP.l2d (z5 + (z9 + (z13 + z17))))), .second, .val (.int z21)] [(.int (1 : Int32)), (.int nn)])) (fun t k => XS.iconst X0.here hx rfl (hb hby d5_116) k) ?_
  obtain ⟨z24, hz24⟩ : ∃ z : Int32, z = (if (1 : Int32) < nn then (if ((z9 + (z13 + z17)) + (z9 + (z13 + z17))) < kq then z21 else (z21 + (1 : Int32))) else z21) := ⟨_, rfl⟩
  refine own_pre (B := s₁.setTop (mkF m 130 #[.val (.ref a1), .val (.ref a2), .val (.double d3), .second, .val (.int nn), .val (.double (FP.l2d z5)), .second, .val (.double (FP.l2d z9)), .second, .val (.double (FP.l2d z13)), .second, .val (.double (FP.l2d z17)), .second, .val (.double (FP.l2d z17)), .second, .val (.double (FP.l2d (z13 + z17))), .second, .val (.double (FP.l2d (z9 + (z13 + z17)))), .second, .val (.double (FP.l2d (z5 + (z9 + (z13 + z17))))), .second, .val (.int z24)] [])) (fun t k => ?_) ?_
  · by_cases hc117_25 : (1 : Int32) < nn
    · refine XS.icmpNo X0.here hx rfl (hb hby d5_117) rfl (tlt hc117_25).2.2.2 ?_
      show Steps p.tables e below (s₁.setTop (mkF m 120 #[.val (.ref a1), .val (.ref a2), .val (.double d3), .second, .val (.int nn), .val (.double (FP.l2d z5)), .second, .val (.double (FP.l2d z9)), .second, .val (.double (FP.l2d z13)), .second, .val (.double (FP.l2d z17)), .second, .val (.double (FP.l2d z17)), .second, .val (.double (FP.l2d (z13 + z17))), .second, .val (.double (FP.l2d (z9 + (z13 + z17)))), .second, .val (.double (FP.l2d (z5 + (z9 + (z13 + z17))))), .second, .val (.int z21)] [])) _
      refine XS.dload X0.here hx rfl (hb hby d5_120) rfl ?_
      show Steps p.tables e below (s₁.setTop (mkF m 122 #[.val (.ref a1), .val (.ref a2), .val (.double d3), .second, .val (.int nn), .val (.double (FP.l2d z5)), .second, .val (.double (FP.l2d z9)), .second, .val (.double (FP.l2d z13)), .second, .val (.double (FP.l2d z17)), .second, .val (.double (FP.l2d z17)), .second, .val (.double (FP.l2d (z13 + z17))), .second, .val (.double (FP.l2d (z9 + (z13 + z17)))), .second, .val (.double (FP.l2d (z5 + (z9 + (z13 + z17))))), .second, .val (.int z21)] [(.double (FP.l2d (z9 + (z13 + z17))))])) _
      refine XS.dloadN X0.here hx rfl (hb hby d5_122) rfl ?_
      show Steps p.tables e below (s₁.setTop (mkF m 123 #[.val (.ref a1), .val (.ref a2), .val (.double d3), .second, .val (.int nn), .val (.double (FP.l2d z5)), .second, .val (.double (FP.l2d z9)), .second, .val (.double (FP.l2d z13)), .second, .val (.double (FP.l2d z17)), .second, .val (.double (FP.l2d z17)), .second, .val (.double (FP.l2d (z13 + z17))), .second, .val (.double (FP.l2d (z9 + (z13 + z17)))), .second, .val (.double (FP.l2d (z5 + (z9 + (z13 + z17))))), .second, .val (.int z21)] [(.double d3), (.double (FP.l2d (z9 + (z13 + z17))))])) _
      refine XS.dcmpS X0.here hx rfl (hb hby d5_123) rfl (own_cmpd hd (own_Badd (own_Bz hz9 hB1) (own_Badd (own_Bz hz13 hB2) (own_Bz hz17 hB3) (by decide)) (by decide)) (by decide) hk _) ?_
      show Steps p.tables e below (s₁.setTop (mkF m 124 #[.val (.ref a1), .val (.ref a2), .val (.double d3), .second, .val (.int nn), .val (.double (FP.l2d z5)), .second, .val (.double (FP.l2d z9)), .second, .val (.double (FP.l2d z13)), .second, .val (.double (FP.l2d z17)), .second, .val (.double (FP.l2d z17)), .second, .val (.double (FP.l2d (z13 + z17))), .second, .val (.double (FP.l2d (z9 + (z13 + z17)))), .second, .val (.double (FP.l2d (z5 + (z9 + (z13 + z17))))), .second, .val (.int z21)] [(.int (lcmpW ((z9 + (z13 + z17)) + (z9 + (z13 + z17))) kq))])) _
      by_cases hc124_26 : ((z9 + (z13 + z17)) + (z9 + (z13 + z17))) < kq
      · refine XS.ifYes X0.here hx rfl (pc0 := 124) (pc' := 130) rfl (hb hby d5_124) rfl ((if0 _ _).trans (tlt ((lw_lt ((z9 + (z13 + z17)) + (z9 + (z13 + z17))) kq).mpr hc124_26)).1) (by decide) (by decide) ?_
        show Steps p.tables e below (s₁.setTop (mkF m 130 #[.val (.ref a1), .val (.ref a2), .val (.double d3), .second, .val (.int nn), .val (.double (FP.l2d z5)), .second, .val (.double (FP.l2d z9)), .second, .val (.double (FP.l2d z13)), .second, .val (.double (FP.l2d z17)), .second, .val (.double (FP.l2d z17)), .second, .val (.double (FP.l2d (z13 + z17))), .second, .val (.double (FP.l2d (z9 + (z13 + z17)))), .second, .val (.double (FP.l2d (z5 + (z9 + (z13 + z17))))), .second, .val (.int z21)] [])) _
        rw [if_pos hc117_25, if_pos hc124_26] at hz24
        subst hz24
        exact k
      · refine XS.ifNo X0.here hx rfl (hb hby d5_124) rfl ((if0 _ _).trans (flt (mt (lw_lt ((z9 + (z13 + z17)) + (z9 + (z13 + z17))) kq).mp hc124_26)).1) ?_
        show Steps p.tables e below (s₁.setTop (mkF m 127 #[.val (.ref a1), .val (.ref a2), .val (.double d3), .second, .val (.int nn), .val (.double (FP.l2d z5)), .second, .val (.double (FP.l2d z9)), .second, .val (.double (FP.l2d z13)), .second, .val (.double (FP.l2d z17)), .second, .val (.double (FP.l2d z17)), .second, .val (.double (FP.l2d (z13 + z17))), .second, .val (.double (FP.l2d (z9 + (z13 + z17)))), .second, .val (.double (FP.l2d (z5 + (z9 + (z13 + z17))))), .second, .val (.int z21)] [])) _
        refine XS.iinc X0.here hx rfl (hb hby d5_127) rfl (l' := #[.val (.ref a1), .val (.ref a2), .val (.double d3), .second, .val (.int nn), .val (.double (FP.l2d z5)), .second, .val (.double (FP.l2d z9)), .second, .val (.double (FP.l2d z13)), .second, .val (.double (FP.l2d z17)), .second, .val (.double (FP.l2d z17)), .second, .val (.double (FP.l2d (z13 + z17))), .second, .val (.double (FP.l2d (z9 + (z13 + z17)))), .second, .val (.double (FP.l2d (z5 + (z9 + (z13 + z17))))), .second, .val (.int (z21 + (1 : Int32)))]) rfl ?_
        show Steps p.tables e below (s₁.setTop (mkF m 130 #[.val (.ref a1), .val (.ref a2), .val (.double d3), .second, .val (.int nn), .val (.double (FP.l2d z5)), .second, .val (.double (FP.l2d z9)), .second, .val (.double (FP.l2d z13)), .second, .val (.double (FP.l2d z17)), .second, .val (.double (FP.l2d z17)), .second, .val (.double (FP.l2d (z13 + z17))), .second, .val (.double (FP.l2d (z9 + (z13 + z17)))), .second, .val (.double (FP.l2d (z5 + (z9 + (z13 + z17))))), .second, .val (.int (z21 + (1 : Int32)))] [])) _
        rw [if_pos hc117_25, if_neg hc124_26] at hz24
        subst hz24
        exact k
    · refine XS.icmpYes X0.here hx rfl (pc0 := 117) (pc' := 130) rfl (hb hby d5_117) rfl (flt hc117_25).2.2.2 (by decide) (by decide) ?_
      show Steps p.tables e below (s₁.setTop (mkF m 130 #[.val (.ref a1), .val (.ref a2), .val (.double d3), .second, .val (.int nn), .val (.double (FP.l2d z5)), .second, .val (.double (FP.l2d z9)), .second, .val (.double (FP.l2d z13)), .second, .val (.double (FP.l2d z17)), .second, .val (.double (FP.l2d z17)), .second, .val (.double (FP.l2d (z13 + z17))), .second, .val (.double (FP.l2d (z9 + (z13 + z17)))), .second, .val (.double (FP.l2d (z5 + (z9 + (z13 + z17))))), .second, .val (.int z21)] [])) _
      rw [if_neg hc117_25] at hz24
      subst hz24
      exact k
  refine own_pre (B := s₁.setTop (mkF m 132 #[.val (.ref a1), .val (.ref a2), .val (.double d3), .second, .val (.int nn), .val (.double (FP.l2d z5)), .second, .val (.double (FP.l2d z9)), .second, .val (.double (FP.l2d z13)), .second, .val (.double (FP.l2d z17)), .second, .val (.double (FP.l2d z17)), .second, .val (.double (FP.l2d (z13 + z17))), .second, .val (.double (FP.l2d (z9 + (z13 + z17)))), .second, .val (.double (FP.l2d (z5 + (z9 + (z13 + z17))))), .second, .val (.int z24)] [(.int nn)])) (fun t k => XS.iload X0.here hx rfl (hb hby d5_130) rfl k) ?_
  refine own_pre (B := s₁.setTop (mkF m 133 #[.val (.ref a1), .val (.ref a2), .val (.double d3), .second, .val (.int nn), .val (.double (FP.l2d z5)), .second, .val (.double (FP.l2d z9)), .second, .val (.double (FP.l2d z13)), .second, .val (.double (FP.l2d z17)), .second, .val (.double (FP.l2d z17)), .second, .val (.double (FP.l2d (z13 + z17))), .second, .val (.double (FP.l2d (z9 + (z13 + z17)))), .second, .val (.double (FP.l2d (z5 + (z9 + (z13 + z17))))), .second, .val (.int z24)] [(.int (2 : Int32)), (.int nn)])) (fun t k => XS.iconst X0.here hx rfl (hb hby d5_132) k) ?_
  obtain ⟨z27, hz27⟩ : ∃ z : Int32, z = (if (2 : Int32) < nn then (if ((z13 + z17) + (z13 + z17)) < kq then z24 else (z24 + (1 : Int32))) else z24) := ⟨_, rfl⟩
  refine own_pre (B := s₁.setTop (mkF m 146 #[.val (.ref a1), .val (.ref a2), .val (.double d3), .second, .val (.int nn), .val (.double (FP.l2d z5)), .second, .val (.double (FP.l2d z9)), .second, .val (.double (FP.l2d z13)), .second, .val (.double (FP.l2d z17)), .second, .val (.double (FP.l2d z17)), .second, .val (.double (FP.l2d (z13 + z17))), .second, .val (.double (FP.l2d (z9 + (z13 + z17)))), .second, .val (.double (FP.l2d (z5 + (z9 + (z13 + z17))))), .second, .val (.int z27)] [])) (fun t k => ?_) ?_
  · by_cases hc133_28 : (2 : Int32) < nn
    · refine XS.icmpNo X0.here hx rfl (hb hby d5_133) rfl (tlt hc133_28).2.2.2 ?_
      show Steps p.tables e below (s₁.setTop (mkF m 136 #[.val (.ref a1), .val (.ref a2), .val (.double d3), .second, .val (.int nn), .val (.double (FP.l2d z5)), .second, .val (.double (FP.l2d z9)), .second, .val (.double (FP.l2d z13)), .second, .val (.double (FP.l2d z17)), .second, .val (.double (FP.l2d z17)), .second, .val (.double (FP.l2d (z13 + z17))), .second, .val (.double (FP.l2d (z9 + (z13 + z17)))), .second, .val (.double (FP.l2d (z5 + (z9 + (z13 + z17))))), .second, .val (.int z24)] [])) _
      refine XS.dload X0.here hx rfl (hb hby d5_136) rfl ?_
      show Steps p.tables e below (s₁.setTop (mkF m 138 #[.val (.ref a1), .val (.ref a2), .val (.double d3), .second, .val (.int nn), .val (.double (FP.l2d z5)), .second, .val (.double (FP.l2d z9)), .second, .val (.double (FP.l2d z13)), .second, .val (.double (FP.l2d z17)), .second, .val (.double (FP.l2d z17)), .second, .val (.double (FP.l2d (z13 + z17))), .second, .val (.double (FP.l2d (z9 + (z13 + z17)))), .second, .val (.double (FP.l2d (z5 + (z9 + (z13 + z17))))), .second, .val (.int z24)] [(.double (FP.l2d (z13 + z17)))])) _
      refine XS.dloadN X0.here hx rfl (hb hby d5_138) rfl ?_
      show Steps p.tables e below (s₁.setTop (mkF m 139 #[.val (.ref a1), .val (.ref a2), .val (.double d3), .second, .val (.int nn), .val (.double (FP.l2d z5)), .second, .val (.double (FP.l2d z9)), .second, .val (.double (FP.l2d z13)), .second, .val (.double (FP.l2d z17)), .second, .val (.double (FP.l2d z17)), .second, .val (.double (FP.l2d (z13 + z17))), .second, .val (.double (FP.l2d (z9 + (z13 + z17)))), .second, .val (.double (FP.l2d (z5 + (z9 + (z13 + z17))))), .second, .val (.int z24)] [(.double d3), (.double (FP.l2d (z13 + z17)))])) _
      refine XS.dcmpS X0.here hx rfl (hb hby d5_139) rfl (own_cmpd hd (own_Badd (own_Bz hz13 hB2) (own_Bz hz17 hB3) (by decide)) (by decide) hk _) ?_
      show Steps p.tables e below (s₁.setTop (mkF m 140 #[.val (.ref a1), .val (.ref a2), .val (.double d3), .second, .val (.int nn), .val (.double (FP.l2d z5)), .second, .val (.double (FP.l2d z9)), .second, .val (.double (FP.l2d z13)), .second, .val (.double (FP.l2d z17)), .second, .val (.double (FP.l2d z17)), .second, .val (.double (FP.l2d (z13 + z17))), .second, .val (.double (FP.l2d (z9 + (z13 + z17)))), .second, .val (.double (FP.l2d (z5 + (z9 + (z13 + z17))))), .second, .val (.int z24)] [(.int (lcmpW ((z13 + z17) + (z13 + z17)) kq))])) _
      by_cases hc140_29 : ((z13 + z17) + (z13 + z17)) < kq
      · refine XS.ifYes X0.here hx rfl (pc0 := 140) (pc' := 146) rfl (hb hby d5_140) rfl ((if0 _ _).trans (tlt ((lw_lt ((z13 + z17) + (z13 + z17)) kq).mpr hc140_29)).1) (by decide) (by decide) ?_
        show Steps p.tables e below (s₁.setTop (mkF m 146 #[.val (.ref a1), .val (.ref a2), .val (.double d3), .second, .val (.int nn), .val (.double (FP.l2d z5)), .second, .val (.double (FP.l2d z9)), .second, .val (.double (FP.l2d z13)), .second, .val (.double (FP.l2d z17)), .second, .val (.double (FP.l2d z17)), .second, .val (.double (FP.l2d (z13 + z17))), .second, .val (.double (FP.l2d (z9 + (z13 + z17)))), .second, .val (.double (FP.l2d (z5 + (z9 + (z13 + z17))))), .second, .val (.int z24)] [])) _
        rw [if_pos hc133_28, if_pos hc140_29] at hz27
        subst hz27
        exact k
      · refine XS.ifNo X0.here hx rfl (hb hby d5_140) rfl ((if0 _ _).trans (flt (mt (lw_lt ((z13 + z17) + (z13 + z17)) kq).mp hc140_29)).1) ?_
        show Steps p.tables e below (s₁.setTop (mkF m 143 #[.val (.ref a1), .val (.ref a2), .val (.double d3), .second, .val (.int nn), .val (.double (FP.l2d z5)), .second, .val (.double (FP.l2d z9)), .second, .val (.double (FP.l2d z13)), .second, .val (.double (FP.l2d z17)), .second, .val (.double (FP.l2d z17)), .second, .val (.double (FP.l2d (z13 + z17))), .second, .val (.double (FP.l2d (z9 + (z13 + z17)))), .second, .val (.double (FP.l2d (z5 + (z9 + (z13 + z17))))), .second, .val (.int z24)] [])) _
        refine XS.iinc X0.here hx rfl (hb hby d5_143) rfl (l' := #[.val (.ref a1), .val (.ref a2), .val (.double d3), .second, .val (.int nn), .val (.double (FP.l2d z5)), .second, .val (.double (FP.l2d z9)), .second, .val (.double (FP.l2d z13)), .second, .val (.double (FP.l2d z17)), .second, .val (.double (FP.l2d z17)), .second, .val (.double (FP.l2d (z13 + z17))), .second, .val (.double (FP.l2d (z9 + (z13 + z17)))), .second, .val (.double (FP.l2d (z5 + (z9 + (z13 + z17))))), .second, .val (.int (z24 + (1 : Int32)))]) rfl ?_
        show Steps p.tables e below (s₁.setTop (mkF m 146 #[.val (.ref a1), .val (.ref a2), .val (.double d3), .second, .val (.int nn), .val (.double (FP.l2d z5)), .second, .val (.double (FP.l2d z9)), .second, .val (.double (FP.l2d z13)), .second, .val (.double (FP.l2d z17)), .second, .val (.double (FP.l2d z17)), .second, .val (.double (FP.l2d (z13 + z17))), .second, .val (.double (FP.l2d (z9 + (z13 + z17)))), .second, .val (.double (FP.l2d (z5 + (z9 + (z13 + z17))))), .second, .val (.int (z24 + (1 : Int32)))] [])) _
        rw [if_pos hc133_28, if_neg hc140_29] at hz27
        subst hz27
        exact k
    · refine XS.icmpYes X0.here hx rfl (pc0 := 133) (pc' := 146) rfl (hb hby d5_133) rfl (flt hc133_28).2.2.2 (by decide) (by decide) ?_
      show Steps p.tables e below (s₁.setTop (mkF m 146 #[.val (.ref a1), .val (.ref a2), .val (.double d3), .second, .val (.int nn), .val (.double (FP.l2d z5)), .second, .val (.double (FP.l2d z9)), .second, .val (.double (FP.l2d z13)), .second, .val (.double (FP.l2d z17)), .second, .val (.double (FP.l2d z17)), .second, .val (.double (FP.l2d (z13 + z17))), .second, .val (.double (FP.l2d (z9 + (z13 + z17)))), .second, .val (.double (FP.l2d (z5 + (z9 + (z13 + z17))))), .second, .val (.int z24)] [])) _
      rw [if_neg hc133_28] at hz27
      subst hz27
      exact k
  refine own_pre (B := s₁.setTop (mkF m 148 #[.val (.ref a1), .val (.ref a2), .val (.double d3), .second, .val (.int nn), .val (.double (FP.l2d z5)), .second, .val (.double (FP.l2d z9)), .second, .val (.double (FP.l2d z13)), .second, .val (.double (FP.l2d z17)), .second, .val (.double (FP.l2d z17)), .second, .val (.double (FP.l2d (z13 + z17))), .second, .val (.double (FP.l2d (z9 + (z13 + z17)))), .second, .val (.double (FP.l2d (z5 + (z9 + (z13 + z17))))), .second, .val (.int z27)] [(.int nn)])) (fun t k => XS.iload X0.here hx rfl (hb hby d5_146) rfl k) ?_
  refine own_pre (B := s₁.setTop (mkF m 149 #[.val (.ref a1), .val (.ref a2), .val (.double d3), .second, .val (.int nn), .val (.double (FP.l2d z5)), .second, .val (.double (FP.l2d z9)), .second, .val (.double (FP.l2d z13)), .second, .val (.double (FP.l2d z17)), .second, .val (.double (FP.l2d z17)), .second, .val (.double (FP.l2d (z13 + z17))), .second, .val (.double (FP.l2d (z9 + (z13 + z17)))), .second, .val (.double (FP.l2d (z5 + (z9 + (z13 + z17))))), .second, .val (.int z27)] [(.int (3 : Int32)), (.int nn)])) (fun t k => XS.iconst X0.here hx rfl (hb hby d5_148) k) ?_
  obtain ⟨z30, hz30⟩ : ∃ z : Int32, z = (if (3 : Int32) < nn then (if (z17 + z17) < kq then z27 else (z27 + (1 : Int32))) else z27) := ⟨_, rfl⟩
  refine own_pre (B := s₁.setTop (mkF m 162 #[.val (.ref a1), .val (.ref a2), .val (.double d3), .second, .val (.int nn), .val (.double (FP.l2d z5)), .second, .val (.double (FP.l2d z9)), .second, .val (.double (FP.l2d z13)), .second, .val (.double (FP.l2d z17)), .second, .val (.double (FP.l2d z17)), .second, .val (.double (FP.l2d (z13 + z17))), .second, .val (.double (FP.l2d (z9 + (z13 + z17)))), .second, .val (.double (FP.l2d (z5 + (z9 + (z13 + z17))))), .second, .val (.int z30)] [])) (fun t k => ?_) ?_
  · by_cases hc149_31 : (3 : Int32) < nn
    · refine XS.icmpNo X0.here hx rfl (hb hby d5_149) rfl (tlt hc149_31).2.2.2 ?_
      show Steps p.tables e below (s₁.setTop (mkF m 152 #[.val (.ref a1), .val (.ref a2), .val (.double d3), .second, .val (.int nn), .val (.double (FP.l2d z5)), .second, .val (.double (FP.l2d z9)), .second, .val (.double (FP.l2d z13)), .second, .val (.double (FP.l2d z17)), .second, .val (.double (FP.l2d z17)), .second, .val (.double (FP.l2d (z13 + z17))), .second, .val (.double (FP.l2d (z9 + (z13 + z17)))), .second, .val (.double (FP.l2d (z5 + (z9 + (z13 + z17))))), .second, .val (.int z27)] [])) _
      refine XS.dload X0.here hx rfl (hb hby d5_152) rfl ?_
      show Steps p.tables e below (s₁.setTop (mkF m 154 #[.val (.ref a1), .val (.ref a2), .val (.double d3), .second, .val (.int nn), .val (.double (FP.l2d z5)), .second, .val (.double (FP.l2d z9)), .second, .val (.double (FP.l2d z13)), .second, .val (.double (FP.l2d z17)), .second, .val (.double (FP.l2d z17)), .second, .val (.double (FP.l2d (z13 + z17))), .second, .val (.double (FP.l2d (z9 + (z13 + z17)))), .second, .val (.double (FP.l2d (z5 + (z9 + (z13 + z17))))), .second, .val (.int z27)] [(.double (FP.l2d z17))])) _
      refine XS.dloadN X0.here hx rfl (hb hby d5_154) rfl ?_
      show Steps p.tables e below (s₁.setTop (mkF m 155 #[.val (.ref a1), .val (.ref a2), .val (.double d3), .second, .val (.int nn), .val (.double (FP.l2d z5)), .second, .val (.double (FP.l2d z9)), .second, .val (.double (FP.l2d z13)), .second, .val (.double (FP.l2d z17)), .second, .val (.double (FP.l2d z17)), .second, .val (.double (FP.l2d (z13 + z17))), .second, .val (.double (FP.l2d (z9 + (z13 + z17)))), .second, .val (.double (FP.l2d (z5 + (z9 + (z13 + z17))))), .second, .val (.int z27)] [(.double d3), (.double (FP.l2d z17))])) _
      refine XS.dcmpS X0.here hx rfl (hb hby d5_155) rfl (own_cmpd hd (own_Bz hz17 hB3) (by decide) hk _) ?_
      show Steps p.tables e below (s₁.setTop (mkF m 156 #[.val (.ref a1), .val (.ref a2), .val (.double d3), .second, .val (.int nn), .val (.double (FP.l2d z5)), .second, .val (.double (FP.l2d z9)), .second, .val (.double (FP.l2d z13)), .second, .val (.double (FP.l2d z17)), .second, .val (.double (FP.l2d z17)), .second, .val (.double (FP.l2d (z13 + z17))), .second, .val (.double (FP.l2d (z9 + (z13 + z17)))), .second, .val (.double (FP.l2d (z5 + (z9 + (z13 + z17))))), .second, .val (.int z27)] [(.int (lcmpW (z17 + z17) kq))])) _
      by_cases hc156_32 : (z17 + z17) < kq
      · refine XS.ifYes X0.here hx rfl (pc0 := 156) (pc' := 162) rfl (hb hby d5_156) rfl ((if0 _ _).trans (tlt ((lw_lt (z17 + z17) kq).mpr hc156_32)).1) (by decide) (by decide) ?_
        show Steps p.tables e below (s₁.setTop (mkF m 162 #[.val (.ref a1), .val (.ref a2), .val (.double d3), .second, .val (.int nn), .val (.double (FP.l2d z5)), .second, .val (.double (FP.l2d z9)), .second, .val (.double (FP.l2d z13)), .second, .val (.double (FP.l2d z17)), .second, .val (.double (FP.l2d z17)), .second, .val (.double (FP.l2d (z13 + z17))), .second, .val (.double (FP.l2d (z9 + (z13 + z17)))), .second, .val (.double (FP.l2d (z5 + (z9 + (z13 + z17))))), .second, .val (.int z27)] [])) _
        rw [if_pos hc149_31, if_pos hc156_32] at hz30
        subst hz30
        exact k
      · refine XS.ifNo X0.here hx rfl (hb hby d5_156) rfl ((if0 _ _).trans (flt (mt (lw_lt (z17 + z17) kq).mp hc156_32)).1) ?_
        show Steps p.tables e below (s₁.setTop (mkF m 159 #[.val (.ref a1), .val (.ref a2), .val (.double d3), .second, .val (.int nn), .val (.double (FP.l2d z5)), .second, .val (.double (FP.l2d z9)), .second, .val (.double (FP.l2d z13)), .second, .val (.double (FP.l2d z17)), .second, .val (.double (FP.l2d z17)), .second, .val (.double (FP.l2d (z13 + z17))), .second, .val (.double (FP.l2d (z9 + (z13 + z17)))), .second, .val (.double (FP.l2d (z5 + (z9 + (z13 + z17))))), .second, .val (.int z27)] [])) _
        refine XS.iinc X0.here hx rfl (hb hby d5_159) rfl (l' := #[.val (.ref a1), .val (.ref a2), .val (.double d3), .second, .val (.int nn), .val (.double (FP.l2d z5)), .second, .val (.double (FP.l2d z9)), .second, .val (.double (FP.l2d z13)), .second, .val (.double (FP.l2d z17)), .second, .val (.double (FP.l2d z17)), .second, .val (.double (FP.l2d (z13 + z17))), .second, .val (.double (FP.l2d (z9 + (z13 + z17)))), .second, .val (.double (FP.l2d (z5 + (z9 + (z13 + z17))))), .second, .val (.int (z27 + (1 : Int32)))]) rfl ?_
        show Steps p.tables e below (s₁.setTop (mkF m 162 #[.val (.ref a1), .val (.ref a2), .val (.double d3), .second, .val (.int nn), .val (.double (FP.l2d z5)), .second, .val (.double (FP.l2d z9)), .second, .val (.double (FP.l2d z13)), .second, .val (.double (FP.l2d z17)), .second, .val (.double (FP.l2d z17)), .second, .val (.double (FP.l2d (z13 + z17))), .second, .val (.double (FP.l2d (z9 + (z13 + z17)))), .second, .val (.double (FP.l2d (z5 + (z9 + (z13 + z17))))), .second, .val (.int (z27 + (1 : Int32)))] [])) _
        rw [if_pos hc149_31, if_neg hc156_32] at hz30
        subst hz30
        exact k
    · refine XS.icmpYes X0.here hx rfl (pc0 := 149) (pc' := 162) rfl (hb hby d5_149) rfl (flt hc149_31).2.2.2 (by decide) (by decide) ?_
      show Steps p.tables e below (s₁.setTop (mkF m 162 #[.val (.ref a1), .val (.ref a2), .val (.double d3), .second, .val (.int nn), .val (.double (FP.l2d z5)), .second, .val (.double (FP.l2d z9)), .second, .val (.double (FP.l2d z13)), .second, .val (.double (FP.l2d z17)), .second, .val (.double (FP.l2d z17)), .second, .val (.double (FP.l2d (z13 + z17))), .second, .val (.double (FP.l2d (z9 + (z13 + z17)))), .second, .val (.double (FP.l2d (z5 + (z9 + (z13 + z17))))), .second, .val (.int z27)] [])) _
      rw [if_neg hc149_31] at hz30
      subst hz30
      exact k
  refine own_pre (B := s₁.setTop (mkF m 164 #[.val (.ref a1), .val (.ref a2), .val (.double d3), .second, .val (.int nn), .val (.double (FP.l2d z5)), .second, .val (.double (FP.l2d z9)), .second, .val (.double (FP.l2d z13)), .second, .val (.double (FP.l2d z17)), .second, .val (.double (FP.l2d z17)), .second, .val (.double (FP.l2d (z13 + z17))), .second, .val (.double (FP.l2d (z9 + (z13 + z17)))), .second, .val (.double (FP.l2d (z5 + (z9 + (z13 + z17))))), .second, .val (.int z30)] [(.int z30)])) (fun t k => XS.iload X0.here hx rfl (hb hby d5_162) rfl k) ?_
  obtain ⟨fsr33, hrr33, hrunr33, hendedr33, hWr33, hsamer33⟩ := X0.leave (v := some (.int z30)) (fun h => by rw [Bd.returns] at h; cases h)
  refine ⟨_, _, (retI X0 hx Bd.returns (hb hby d5_164) hrr33), hrunr33, hendedr33, _, _, rfl, ?_, ⟨_, rfl⟩, hWr33, hsamer33.mono (by decide) (by decide)⟩
  show Q5 Z a1 a2 d3 k_a1 w0 w1 w2 w3 w4 w5 w6 w7 k_a2 nn r0 r1 r2 r3 kq ve0 ve1 ve2 ve3 h0 n0 _ s₁.heap _
  rw [e0]
  exact ⟨(by subst hz5 hz9 hz13 hz17 hz21 hz24 hz27 hz30; rfl), N0, rfl⟩
theorem own_eq0 {kq ve0 ve1 ve2 ve3 : Int64} (b0 : own_B 255 ve0) (b1 : own_B 255 ve1) (b2 : own_B 255 ve2) (b3 : own_B 255 ve3) : own_f4 (0 : Int32) kq ve0 ve1 ve2 ve3 = own_f5 (0 : Int32) kq ve0 ve1 ve2 ve3 := by
  rw [own_f4_0]
  unfold own_f5
  rw [show own_e (0 : Int32) 0 ve0 = 0 from if_neg (by decide)]
  rw [show own_e (0 : Int32) 1 ve1 = 0 from if_neg (by decide)]
  rw [show own_e (0 : Int32) 2 ve2 = 0 from if_neg (by decide)]
  rw [show own_e (0 : Int32) 3 ve3 = 0 from if_neg (by decide)]
  unfold own_s
  rfl
theorem own_eq1 {kq ve0 ve1 ve2 ve3 : Int64} (b0 : own_B 255 ve0) (b1 : own_B 255 ve1) (b2 : own_B 255 ve2) (b3 : own_B 255 ve3) : own_f4 (1 : Int32) kq ve0 ve1 ve2 ve3 = own_f5 (1 : Int32) kq ve0 ve1 ve2 ve3 := by
  rw [own_f4_1]
  unfold own_f5
  rw [show own_e (1 : Int32) 0 ve0 = ve0 from if_pos (by decide)]
  rw [show own_e (1 : Int32) 1 ve1 = 0 from if_neg (by decide)]
  rw [show own_e (1 : Int32) 2 ve2 = 0 from if_neg (by decide)]
  rw [show own_e (1 : Int32) 3 ve3 = 0 from if_neg (by decide)]
  unfold own_s
  rw [if_neg (show ¬ (3 : Int32) < (1 : Int32) by decide), if_neg (show ¬ (2 : Int32) < (1 : Int32) by decide), if_neg (show ¬ (1 : Int32) < (1 : Int32) by decide), if_pos (show (0 : Int32) < (1 : Int32) by decide)]
  have a0 := (own_tI own_B0 b0 (by decide))
  have a1 := (own_tI own_B0 own_B0 (by decide))
  have a2 := (own_tI own_B0 (own_Badd own_B0 own_B0 (by decide)) (by decide))
  have a3 := (own_tI b0 (own_Badd own_B0 (own_Badd own_B0 own_B0 (by decide)) (by decide)) (by decide))
  have a4 := (own_tI (own_Badd own_B0 b0 (by decide)) (own_Badd own_B0 b0 (by decide)) (by decide))
  have a5 := (own_tI own_B0 own_B0 (by decide))
  have a6 := (own_tI (own_Badd own_B0 own_B0 (by decide)) (own_Badd own_B0 own_B0 (by decide)) (by decide))
  have a7 := (own_tI (own_Badd own_B0 (own_Badd own_B0 own_B0 (by decide)) (by decide)) (own_Badd own_B0 (own_Badd own_B0 own_B0 (by decide)) (by decide)) (by decide))
  have a8 := (own_tI (own_Badd b0 (own_Badd own_B0 (own_Badd own_B0 own_B0 (by decide)) (by decide)) (by decide)) (own_Badd b0 (own_Badd own_B0 (own_Badd own_B0 own_B0 (by decide)) (by decide)) (by decide)) (by decide))
  have z0 : (0 : Int64).toInt = 0 := rfl
  obtain ⟨l0, g0⟩ := b0
  obtain ⟨l1, g1⟩ := b1
  obtain ⟨l2, g2⟩ := b2
  obtain ⟨l3, g3⟩ := b3
  simp only [Int64.lt_iff_toInt_lt, z0, a8, a7, a6, a5, a4, a3, a2, a1, a0]
  clear a0 a1 a2 a3 a4 a5 a6 a7 a8
  repeat' split
  all_goals first | rfl | (exfalso; omega)
theorem own_eq2 {kq ve0 ve1 ve2 ve3 : Int64} (b0 : own_B 255 ve0) (b1 : own_B 255 ve1) (b2 : own_B 255 ve2) (b3 : own_B 255 ve3) : own_f4 (2 : Int32) kq ve0 ve1 ve2 ve3 = own_f5 (2 : Int32) kq ve0 ve1 ve2 ve3 := by
  rw [own_f4_2]
  unfold own_f5
  rw [show own_e (2 : Int32) 0 ve0 = ve0 from if_pos (by decide)]
  rw [show own_e (2 : Int32) 1 ve1 = ve1 from if_pos (by decide)]
  rw [show own_e (2 : Int32) 2 ve2 = 0 from if_neg (by decide)]
  rw [show own_e (2 : Int32) 3 ve3 = 0 from if_neg (by decide)]
  unfold own_s
  rw [if_neg (show ¬ (3 : Int32) < (2 : Int32) by decide), if_neg (show ¬ (2 : Int32) < (2 : Int32) by decide), if_pos (show (1 : Int32) < (2 : Int32) by decide), if_pos (show (0 : Int32) < (2 : Int32) by decide)]
  have a0 := (own_tI own_B0 b1 (by decide))
  have a1 := (own_tI (own_Badd own_B0 b1 (by decide)) b0 (by decide))
  have a2 := (own_tI own_B0 own_B0 (by decide))
  have a3 := (own_tI b1 (own_Badd own_B0 own_B0 (by decide)) (by decide))
  have a4 := (own_tI b0 (own_Badd b1 (own_Badd own_B0 own_B0 (by decide)) (by decide)) (by decide))
  have a5 := (own_tI (own_Badd own_B0 b1 (by decide)) (own_Badd own_B0 b1 (by decide)) (by decide))
  have a6 := (own_tI (own_Badd (own_Badd own_B0 b1 (by decide)) b0 (by decide)) (own_Badd (own_Badd own_B0 b1 (by decide)) b0 (by decide)) (by decide))
  have a7 := (own_tI own_B0 own_B0 (by decide))
  have a8 := (own_tI (own_Badd own_B0 own_B0 (by decide)) (own_Badd own_B0 own_B0 (by decide)) (by decide))
  have a9 := (own_tI (own_Badd b1 (own_Badd own_B0 own_B0 (by decide)) (by decide)) (own_Badd b1 (own_Badd own_B0 own_B0 (by decide)) (by decide)) (by decide))
  have a10 := (own_tI (own_Badd b0 (own_Badd b1 (own_Badd own_B0 own_B0 (by decide)) (by decide)) (by decide)) (own_Badd b0 (own_Badd b1 (own_Badd own_B0 own_B0 (by decide)) (by decide)) (by decide)) (by decide))
  have z0 : (0 : Int64).toInt = 0 := rfl
  obtain ⟨l0, g0⟩ := b0
  obtain ⟨l1, g1⟩ := b1
  obtain ⟨l2, g2⟩ := b2
  obtain ⟨l3, g3⟩ := b3
  simp only [Int64.lt_iff_toInt_lt, z0, a10, a9, a8, a7, a6, a5, a4, a3, a2, a1, a0]
  clear a0 a1 a2 a3 a4 a5 a6 a7 a8 a9 a10
  repeat' split
  all_goals first | rfl | (exfalso; omega)
theorem own_eq3 {kq ve0 ve1 ve2 ve3 : Int64} (b0 : own_B 255 ve0) (b1 : own_B 255 ve1) (b2 : own_B 255 ve2) (b3 : own_B 255 ve3) : own_f4 (3 : Int32) kq ve0 ve1 ve2 ve3 = own_f5 (3 : Int32) kq ve0 ve1 ve2 ve3 := by
  rw [own_f4_3]
  unfold own_f5
  rw [show own_e (3 : Int32) 0 ve0 = ve0 from if_pos (by decide)]
  rw [show own_e (3 : Int32) 1 ve1 = ve1 from if_pos (by decide)]
  rw [show own_e (3 : Int32) 2 ve2 = ve2 from if_pos (by decide)]
  rw [show own_e (3 : Int32) 3 ve3 = 0 from if_neg (by decide)]
  unfold own_s
  rw [if_neg (show ¬ (3 : Int32) < (3 : Int32) by decide), if_pos (show (2 : Int32) < (3 : Int32) by decide), if_pos (show (1 : Int32) < (3 : Int32) by decide), if_pos (show (0 : Int32) < (3 : Int32) by decide)]
  have a0 := (own_tI own_B0 b2 (by decide))
  have a1 := (own_tI (own_Badd own_B0 b2 (by decide)) b1 (by decide))
  have a2 := (own_tI (own_Badd (own_Badd own_B0 b2 (by decide)) b1 (by decide)) b0 (by decide))
  have a3 := (own_tI b2 own_B0 (by decide))
  have a4 := (own_tI b1 (own_Badd b2 own_B0 (by decide)) (by decide))
  have a5 := (own_tI b0 (own_Badd b1 (own_Badd b2 own_B0 (by decide)) (by decide)) (by decide))
  have a6 := (own_tI (own_Badd own_B0 b2 (by decide)) (own_Badd own_B0 b2 (by decide)) (by decide))
  have a7 := (own_tI (own_Badd (own_Badd own_B0 b2 (by decide)) b1 (by decide)) (own_Badd (own_Badd own_B0 b2 (by decide)) b1 (by decide)) (by decide))
  have a8 := (own_tI (own_Badd (own_Badd (own_Badd own_B0 b2 (by decide)) b1 (by decide)) b0 (by decide)) (own_Badd (own_Badd (own_Badd own_B0 b2 (by decide)) b1 (by decide)) b0 (by decide)) (by decide))
  have a9 := (own_tI own_B0 own_B0 (by decide))
  have a10 := (own_tI (own_Badd b2 own_B0 (by decide)) (own_Badd b2 own_B0 (by decide)) (by decide))
  have a11 := (own_tI (own_Badd b1 (own_Badd b2 own_B0 (by decide)) (by decide)) (own_Badd b1 (own_Badd b2 own_B0 (by decide)) (by decide)) (by decide))
  have a12 := (own_tI (own_Badd b0 (own_Badd b1 (own_Badd b2 own_B0 (by decide)) (by decide)) (by decide)) (own_Badd b0 (own_Badd b1 (own_Badd b2 own_B0 (by decide)) (by decide)) (by decide)) (by decide))
  have z0 : (0 : Int64).toInt = 0 := rfl
  obtain ⟨l0, g0⟩ := b0
  obtain ⟨l1, g1⟩ := b1
  obtain ⟨l2, g2⟩ := b2
  obtain ⟨l3, g3⟩ := b3
  simp only [Int64.lt_iff_toInt_lt, z0, a12, a11, a10, a9, a8, a7, a6, a5, a4, a3, a2, a1, a0]
  clear a0 a1 a2 a3 a4 a5 a6 a7 a8 a9 a10 a11 a12
  repeat' split
  all_goals first | rfl | (exfalso; omega)
theorem own_eq4 {kq ve0 ve1 ve2 ve3 : Int64} (b0 : own_B 255 ve0) (b1 : own_B 255 ve1) (b2 : own_B 255 ve2) (b3 : own_B 255 ve3) : own_f4 (4 : Int32) kq ve0 ve1 ve2 ve3 = own_f5 (4 : Int32) kq ve0 ve1 ve2 ve3 := by
  rw [own_f4_4]
  unfold own_f5
  rw [show own_e (4 : Int32) 0 ve0 = ve0 from if_pos (by decide)]
  rw [show own_e (4 : Int32) 1 ve1 = ve1 from if_pos (by decide)]
  rw [show own_e (4 : Int32) 2 ve2 = ve2 from if_pos (by decide)]
  rw [show own_e (4 : Int32) 3 ve3 = ve3 from if_pos (by decide)]
  unfold own_s
  rw [if_pos (show (3 : Int32) < (4 : Int32) by decide), if_pos (show (2 : Int32) < (4 : Int32) by decide), if_pos (show (1 : Int32) < (4 : Int32) by decide), if_pos (show (0 : Int32) < (4 : Int32) by decide)]
  have a0 := (own_tI own_B0 b3 (by decide))
  have a1 := (own_tI (own_Badd own_B0 b3 (by decide)) b2 (by decide))
  have a2 := (own_tI (own_Badd (own_Badd own_B0 b3 (by decide)) b2 (by decide)) b1 (by decide))
  have a3 := (own_tI (own_Badd (own_Badd (own_Badd own_B0 b3 (by decide)) b2 (by decide)) b1 (by decide)) b0 (by decide))
  have a4 := (own_tI b2 b3 (by decide))
  have a5 := (own_tI b1 (own_Badd b2 b3 (by decide)) (by decide))
  have a6 := (own_tI b0 (own_Badd b1 (own_Badd b2 b3 (by decide)) (by decide)) (by decide))
  have a7 := (own_tI (own_Badd own_B0 b3 (by decide)) (own_Badd own_B0 b3 (by decide)) (by decide))
  have a8 := (own_tI (own_Badd (own_Badd own_B0 b3 (by decide)) b2 (by decide)) (own_Badd (own_Badd own_B0 b3 (by decide)) b2 (by decide)) (by decide))
  have a9 := (own_tI (own_Badd (own_Badd (own_Badd own_B0 b3 (by decide)) b2 (by decide)) b1 (by decide)) (own_Badd (own_Badd (own_Badd own_B0 b3 (by decide)) b2 (by decide)) b1 (by decide)) (by decide))
  have a10 := (own_tI (own_Badd (own_Badd (own_Badd (own_Badd own_B0 b3 (by decide)) b2 (by decide)) b1 (by decide)) b0 (by decide)) (own_Badd (own_Badd (own_Badd (own_Badd own_B0 b3 (by decide)) b2 (by decide)) b1 (by decide)) b0 (by decide)) (by decide))
  have a11 := (own_tI b3 b3 (by decide))
  have a12 := (own_tI (own_Badd b2 b3 (by decide)) (own_Badd b2 b3 (by decide)) (by decide))
  have a13 := (own_tI (own_Badd b1 (own_Badd b2 b3 (by decide)) (by decide)) (own_Badd b1 (own_Badd b2 b3 (by decide)) (by decide)) (by decide))
  have a14 := (own_tI (own_Badd b0 (own_Badd b1 (own_Badd b2 b3 (by decide)) (by decide)) (by decide)) (own_Badd b0 (own_Badd b1 (own_Badd b2 b3 (by decide)) (by decide)) (by decide)) (by decide))
  have z0 : (0 : Int64).toInt = 0 := rfl
  obtain ⟨l0, g0⟩ := b0
  obtain ⟨l1, g1⟩ := b1
  obtain ⟨l2, g2⟩ := b2
  obtain ⟨l3, g3⟩ := b3
  simp only [Int64.lt_iff_toInt_lt, z0, a14, a13, a12, a11, a10, a9, a8, a7, a6, a5, a4, a3, a2, a1, a0]
  clear a0 a1 a2 a3 a4 a5 a6 a7 a8 a9 a10 a11 a12 a13 a14
  repeat' split
  all_goals first | rfl | (exfalso; omega)
theorem own_eq {nn : Int32} {kq ve0 ve1 ve2 ve3 : Int64} (hn : own_n nn) (b0 : own_B 255 ve0) (b1 : own_B 255 ve1) (b2 : own_B 255 ve2) (b3 : own_B 255 ve3) : own_f4 nn kq ve0 ve1 ve2 ve3 = own_f5 nn kq ve0 ve1 ve2 ve3 := by
  rcases own_five hn with rfl | rfl | rfl | rfl | rfl
  · exact own_eq0 b0 b1 b2 b3
  · exact own_eq1 b0 b1 b2 b3
  · exact own_eq2 b0 b1 b2 b3
  · exact own_eq3 b0 b1 b2 b3
  · exact own_eq4 b0 b1 b2 b3
theorem pd_1 : parseMethodDescriptor "(II)[I" = some ⟨[.int, .int], some (.array .int)⟩ := by decide +kernel
theorem pd_2 : parseMethodDescriptor "([D)V" = some ⟨[(.array .double)], none⟩ := by decide +kernel
theorem pd_3 : parseMethodDescriptor "([ID)I" = some ⟨[(.array .int), .double], some .int⟩ := by decide +kernel
theorem pd_4 : parseMethodDescriptor "([D[ID)I" = some ⟨[(.array .double), (.array .int), .double], some .int⟩ := by decide +kernel
theorem pn_0 : plainName "com/example/nearjoin/nearjoin/join/PrefixCutStartPinLaw" = true := by first | (simp [plainName, overriddenIn]; done) | decide +kernel
theorem ef_0 (m : MethodId) (x0 : Int64) (x1 : Int32) (x2 : Int32) (x3 : Int32) : entryFrame m #[(.long x0), (.int x1), (.int x2), (.int x3)] maxLocals = mkF m 0 #[.val (.long x0), .second, .val (.int x1), .val (.int x2), .val (.int x3), .unset, .unset, .unset, .unset, .unset, .unset, .unset, .unset, .unset, .unset, .unset, .unset] [] := by first | (simp [entryFrame, mkF, argsToLocals, Value.category, maxLocals]; done) | rfl
def Q0 (Z : State) (q1 : Int64) (p2 : Int32) (p3 : Int32) (p4 : Int32) (h0 : Heap) (n0 : Nat) (v : Option Value) (h : Heap) (L : List Loc) : Prop := v = some (.int 1) ∧ Fr n0 L
set_option maxRecDepth 65536 in
set_option maxHeartbeats 40000000 in
theorem rm0 (l : Launch) (Z : State) (a0 : Array Value) (hw : ∀ d ∈ tables_1, d.before a0 Z = true) (ws : List Jvm.Cond) (q1 : Int64) (p2 : Int32) (p3 : Int32) (p4 : Int32) (h0 : Heap) (n0 : Nat) (Z0 : n0 ≤ h0.size) :
    MetFree l x (head1 (Jvm.Cond.code x code maxLocals ret :: ws) room_1) (fun a U => a = #[(.long q1), (.int p2), (.int p3), (.int p4)] ∧ Z.Warmed39 U.vm ∧ U.heap = h0) (fun _ _ _ _ _ => True) (fun _ U o U' => ∃ v L, o = .returned v ∧ Q0 Z q1 p2 p3 p4 h0 n0 v U'.heap L ∧ FrameEnd U o U' L 10 44) := by
  refine MetFree.of_bodySF (plainFor_of_name pn_0) hisR ?_
  intro p e s m args below meth c s₁ Bd hml0 hP hK
  obtain ⟨rfl, hZ, hh⟩ := hP
  have hx := Bd.exec
  have hby := Bd.bytes
  have hml : c.maxLocals = 17 := hml0
  have hown : s.vm.findClass "com/example/nearjoin/nearjoin/join/PrefixCutStartPinLaw" = some m.cls := findClass_of_methodNamed Bd.named
  have hnm := (name_of_methodNamed Bd.named Bd.method).1
  have X0 : Stand p l e room_1 s m #[(.long q1), (.int p2), (.int p3), (.int p4)] below meth c s₁ [] 0 0 := Stand.of_body Bd
  have e0 : s₁.heap = h0 := by rw [← hh, Bd.state]; rfl
  have N0 := Fr.nil n0
  apply own_in
  refine own_pre (B := s₁.setTop (mkF m 0 #[.val (.long q1), .second, .val (.int p2), .val (.int p3), .val (.int p4), .unset, .unset, .unset, .unset, .unset, .unset, .unset, .unset, .unset, .unset, .unset, .unset] [])) (fun t k => castTop (ef_0 m q1 p2 p3 p4) k) ?_
  refine own_pre (B := s₁.setTop (mkF m 2 #[.val (.long q1), .second, .val (.int p2), .val (.int p3), .val (.int p4), .unset, .unset, .unset, .unset, .unset, .unset, .unset, .unset, .unset, .unset, .unset, .unset] [(.int (8 : Int32))])) (fun t k => XS.bipush X0.here hx rfl (hb hby at_0) k) ?_
  have K5 : Keep h0 h0 [] := (Keep.refl h0 [])
  obtain ⟨T6, h6, k6, X6, e6, E6, A6, st6⟩ := newP X0 hx hZ (hw _ (ow 0 rfl)) e0 (g := (mkF m 2 #[.val (.long q1), .second, .val (.int p2), .val (.int p3), .val (.int p4), .unset, .unset, .unset, .unset, .unset, .unset, .unset, .unset, .unset, .unset, .unset, .unset] [(.int (8 : Int32))])) rfl (hb hby at_2) rfl (by decide) (cap := 8) (by decide) (by decide) (by decide) (by decide)
  obtain ⟨b6, g6⟩ : ∃ z, z = h0.size := ⟨_, rfl⟩
  rw [← g6] at A6 st6
  have g_b6 : n0 ≤ b6 := Nat.le_trans Z0 (Nat.le_of_eq g6.symm)
  have s_b6 : h0.size ≤ b6 := Nat.le_trans K5.1 (Nat.le_of_eq g6.symm)
  have V_b6 : Arv Z h6 b6 k6 .double (8 : Int32) [(.double (FP.l2d (0 : Int64))), (.double (FP.l2d (0 : Int64))), (.double (FP.l2d (0 : Int64))), (.double (FP.l2d (0 : Int64))), (.double (FP.l2d (0 : Int64))), (.double (FP.l2d (0 : Int64))), (.double (FP.l2d (0 : Int64))), (.double (FP.l2d (0 : Int64)))] (.double (FP.l2d (0 : Int64))) := (Arv.newD A6 (by decide)).pad (pad_rep [] (.double (FP.l2d (0 : Int64))) 8)
  refine own_pre (B := T6.setTop (mkF m 4 #[.val (.long q1), .second, .val (.int p2), .val (.int p3), .val (.int p4), .unset, .unset, .unset, .unset, .unset, .unset, .unset, .unset, .unset, .unset, .unset, .unset] [(.ref b6)])) (fun t k => st6 t k) ?_
  refine own_pre (B := T6.setTop (mkF m 6 #[.val (.long q1), .second, .val (.int p2), .val (.int p3), .val (.int p4), .val (.ref b6), .unset, .unset, .unset, .unset, .unset, .unset, .unset, .unset, .unset, .unset, .unset] [])) (fun t k => XS.astore X6.here hx rfl (hb hby at_4) rfl rfl (l' := #[.val (.long q1), .second, .val (.int p2), .val (.int p3), .val (.int p4), .val (.ref b6), .unset, .unset, .unset, .unset, .unset, .unset, .unset, .unset, .unset, .unset, .unset]) rfl k) ?_
  refine own_pre (B := T6.setTop (mkF m 8 #[.val (.long q1), .second, .val (.int p2), .val (.int p3), .val (.int p4), .val (.ref b6), .unset, .unset, .unset, .unset, .unset, .unset, .unset, .unset, .unset, .unset, .unset] [(.ref b6)])) (fun t k => XS.aload X6.here hx rfl (hb hby at_6) rfl rfl k) ?_
  refine own_pre (B := T6.setTop (mkF m 9 #[.val (.long q1), .second, .val (.int p2), .val (.int p3), .val (.int p4), .val (.ref b6), .unset, .unset, .unset, .unset, .unset, .unset, .unset, .unset, .unset, .unset, .unset] [(.int (0 : Int32)), (.ref b6)])) (fun t k => XS.iconst X6.here hx rfl (hb hby at_8) k) ?_
  refine own_pre (B := T6.setTop (mkF m 10 #[.val (.long q1), .second, .val (.int p2), .val (.int p3), .val (.int p4), .val (.ref b6), .unset, .unset, .unset, .unset, .unset, .unset, .unset, .unset, .unset, .unset, .unset] [(.long q1), (.int (0 : Int32)), (.ref b6)])) (fun t k => XS.lloadN X6.here hx rfl (hb hby at_9) rfl k) ?_
  refine own_pre (B := T6.setTop (mkF m 13 #[.val (.long q1), .second, .val (.int p2), .val (.int p3), .val (.int p4), .val (.ref b6), .unset, .unset, .unset, .unset, .unset, .unset, .unset, .unset, .unset, .unset, .unset] [(.long (255 : Int64)), (.long q1), (.int (0 : Int32)), (.ref b6)])) (fun t k => X6.ldc2Long hx hown (mvT hZ (hw _ (ow 1 rfl))) (g := (mkF m 10 #[.val (.long q1), .second, .val (.int p2), .val (.int p3), .val (.int p4), .val (.ref b6), .unset, .unset, .unset, .unset, .unset, .unset, .unset, .unset, .unset, .unset, .unset] [(.long q1), (.int (0 : Int32)), (.ref b6)])) rfl (hb hby at_10) _ k) ?_
  refine own_pre (B := T6.setTop (mkF m 14 #[.val (.long q1), .second, .val (.int p2), .val (.int p3), .val (.int p4), .val (.ref b6), .unset, .unset, .unset, .unset, .unset, .unset, .unset, .unset, .unset, .unset, .unset] [(.long (q1 &&& (255 : Int64))), (.int (0 : Int32)), (.ref b6)])) (fun t k => XS.land X6.here hx rfl (hb hby at_13) rfl k) ?_
  obtain ⟨y7, hy7⟩ : ∃ z : Int64, z = (q1 &&& (255 : Int64)) := ⟨_, rfl⟩
  refine own_pre (B := T6.setTop (mkF m 15 #[.val (.long q1), .second, .val (.int p2), .val (.int p3), .val (.int p4), .val (.ref b6), .unset, .unset, .unset, .unset, .unset, .unset, .unset, .unset, .unset, .unset, .unset] [(.double (FP.l2d y7)), (.int (0 : Int32)), (.ref b6)])) (fun t k => XS.l2dS X6.here hx rfl (hb hby at_14) rfl (congrArg FP.l2d hy7.symm) k) ?_
  have K8 : Keep h0 h6 [] := (Keep.ext K5 E6)
  obtain ⟨cl9, Ar9, q9, S9, N9v, H9v, G9v⟩ := V_b6
  have V_b6 : Arv Z h6 b6 k6 .double (8 : Int32) [(.double (FP.l2d (0 : Int64))), (.double (FP.l2d (0 : Int64))), (.double (FP.l2d (0 : Int64))), (.double (FP.l2d (0 : Int64))), (.double (FP.l2d (0 : Int64))), (.double (FP.l2d (0 : Int64))), (.double (FP.l2d (0 : Int64))), (.double (FP.l2d (0 : Int64)))] (.double (FP.l2d (0 : Int64))) := ⟨cl9, Ar9, q9, S9, N9v, H9v, G9v⟩
  have hin9 : ¬ ((0 : Int32) < 0 ∨ cl9.slots.size ≤ ((0 : Int32)).toNatClampNeg) := inb_of S9 ⟨by decide, by decide⟩
  obtain ⟨T10, h10, X10, e10, W10, st10⟩ := stD X6 hx hZ e6 Ar9 (j := (0 : Int32)) hin9 (g := (mkF m 15 #[.val (.long q1), .second, .val (.int p2), .val (.int p3), .val (.int p4), .val (.ref b6), .unset, .unset, .unset, .unset, .unset, .unset, .unset, .unset, .unset, .unset, .unset] [(.double (FP.l2d y7)), (.int (0 : Int32)), (.ref b6)])) rfl rfl (hb hby at_15)
  have V10 : Arv Z h10 b6 k6 .double (8 : Int32) [(.double (FP.l2d y7)), (.double (FP.l2d (0 : Int64))), (.double (FP.l2d (0 : Int64))), (.double (FP.l2d (0 : Int64))), (.double (FP.l2d (0 : Int64))), (.double (FP.l2d (0 : Int64))), (.double (FP.l2d (0 : Int64))), (.double (FP.l2d (0 : Int64)))] (.double (FP.l2d (0 : Int64))) := Arv.set Ar9 q9 S9 N9v H9v G9v rfl W10 0 rfl (Nat.le_of_ble_eq_true rfl)
  have N10 := Fr.snoc X10 N0 g_b6
  obtain ⟨Lh11, Xh11, Nh11⟩ := own_hide X10 N10
  refine own_pre (B := T10.setTop (mkF m 16 #[.val (.long q1), .second, .val (.int p2), .val (.int p3), .val (.int p4), .val (.ref b6), .unset, .unset, .unset, .unset, .unset, .unset, .unset, .unset, .unset, .unset, .unset] [])) (fun t k => st10 t k) ?_
  refine own_pre (B := T10.setTop (mkF m 18 #[.val (.long q1), .second, .val (.int p2), .val (.int p3), .val (.int p4), .val (.ref b6), .unset, .unset, .unset, .unset, .unset, .unset, .unset, .unset, .unset, .unset, .unset] [(.ref b6)])) (fun t k => XS.aload Xh11.here hx rfl (hb hby at_16) rfl rfl k) ?_
  refine own_pre (B := T10.setTop (mkF m 19 #[.val (.long q1), .second, .val (.int p2), .val (.int p3), .val (.int p4), .val (.ref b6), .unset, .unset, .unset, .unset, .unset, .unset, .unset, .unset, .unset, .unset, .unset] [(.int (1 : Int32)), (.ref b6)])) (fun t k => XS.iconst Xh11.here hx rfl (hb hby at_18) k) ?_
  refine own_pre (B := T10.setTop (mkF m 20 #[.val (.long q1), .second, .val (.int p2), .val (.int p3), .val (.int p4), .val (.ref b6), .unset, .unset, .unset, .unset, .unset, .unset, .unset, .unset, .unset, .unset, .unset] [(.long q1), (.int (1 : Int32)), (.ref b6)])) (fun t k => XS.lloadN Xh11.here hx rfl (hb hby at_19) rfl k) ?_
  refine own_pre (B := T10.setTop (mkF m 22 #[.val (.long q1), .second, .val (.int p2), .val (.int p3), .val (.int p4), .val (.ref b6), .unset, .unset, .unset, .unset, .unset, .unset, .unset, .unset, .unset, .unset, .unset] [(.int (8 : Int32)), (.long q1), (.int (1 : Int32)), (.ref b6)])) (fun t k => XS.bipush Xh11.here hx rfl (hb hby at_20) k) ?_
  refine own_pre (B := T10.setTop (mkF m 23 #[.val (.long q1), .second, .val (.int p2), .val (.int p3), .val (.int p4), .val (.ref b6), .unset, .unset, .unset, .unset, .unset, .unset, .unset, .unset, .unset, .unset, .unset] [(.long ((q1.toUInt64 >>> ((8 : Int32) &&& 0x3f).toInt64.toUInt64).toInt64)), (.int (1 : Int32)), (.ref b6)])) (fun t k => XS.lushr Xh11.here hx rfl (hb hby at_22) rfl k) ?_
  refine own_pre (B := T10.setTop (mkF m 26 #[.val (.long q1), .second, .val (.int p2), .val (.int p3), .val (.int p4), .val (.ref b6), .unset, .unset, .unset, .unset, .unset, .unset, .unset, .unset, .unset, .unset, .unset] [(.long (255 : Int64)), (.long ((q1.toUInt64 >>> ((8 : Int32) &&& 0x3f).toInt64.toUInt64).toInt64)), (.int (1 : Int32)), (.ref b6)])) (fun t k => Xh11.ldc2Long hx hown (mvT hZ (hw _ (ow 1 rfl))) (g := (mkF m 23 #[.val (.long q1), .second, .val (.int p2), .val (.int p3), .val (.int p4), .val (.ref b6), .unset, .unset, .unset, .unset, .unset, .unset, .unset, .unset, .unset, .unset, .unset] [(.long ((q1.toUInt64 >>> ((8 : Int32) &&& 0x3f).toInt64.toUInt64).toInt64)), (.int (1 : Int32)), (.ref b6)])) rfl (hb hby at_23) _ k) ?_
  refine own_pre (B := T10.setTop (mkF m 27 #[.val (.long q1), .second, .val (.int p2), .val (.int p3), .val (.int p4), .val (.ref b6), .unset, .unset, .unset, .unset, .unset, .unset, .unset, .unset, .unset, .unset, .unset] [(.long (((q1.toUInt64 >>> ((8 : Int32) &&& 0x3f).toInt64.toUInt64).toInt64) &&& (255 : Int64))), (.int (1 : Int32)), (.ref b6)])) (fun t k => XS.land Xh11.here hx rfl (hb hby at_26) rfl k) ?_
  obtain ⟨y12, hy12⟩ : ∃ z : Int64, z = (((q1.toUInt64 >>> ((8 : Int32) &&& 0x3f).toInt64.toUInt64).toInt64) &&& (255 : Int64)) := ⟨_, rfl⟩
  refine own_pre (B := T10.setTop (mkF m 28 #[.val (.long q1), .second, .val (.int p2), .val (.int p3), .val (.int p4), .val (.ref b6), .unset, .unset, .unset, .unset, .unset, .unset, .unset, .unset, .unset, .unset, .unset] [(.double (FP.l2d y12)), (.int (1 : Int32)), (.ref b6)])) (fun t k => XS.l2dS Xh11.here hx rfl (hb hby at_27) rfl (congrArg FP.l2d hy12.symm) k) ?_
  have K13 : Keep h0 h10 [] := (Keep.wr K8 W10 (Or.inr s_b6))
  obtain ⟨cl14, Ar14, q14, S14, N14v, H14v, G14v⟩ := V10
  have V10 : Arv Z h10 b6 k6 .double (8 : Int32) [(.double (FP.l2d y7)), (.double (FP.l2d (0 : Int64))), (.double (FP.l2d (0 : Int64))), (.double (FP.l2d (0 : Int64))), (.double (FP.l2d (0 : Int64))), (.double (FP.l2d (0 : Int64))), (.double (FP.l2d (0 : Int64))), (.double (FP.l2d (0 : Int64)))] (.double (FP.l2d (0 : Int64))) := ⟨cl14, Ar14, q14, S14, N14v, H14v, G14v⟩
  have hin14 : ¬ ((1 : Int32) < 0 ∨ cl14.slots.size ≤ ((1 : Int32)).toNatClampNeg) := inb_of S14 ⟨by decide, by decide⟩
  obtain ⟨T15, h15, X15, e15, W15, st15⟩ := stD Xh11 hx hZ e10 Ar14 (j := (1 : Int32)) hin14 (g := (mkF m 28 #[.val (.long q1), .second, .val (.int p2), .val (.int p3), .val (.int p4), .val (.ref b6), .unset, .unset, .unset, .unset, .unset, .unset, .unset, .unset, .unset, .unset, .unset] [(.double (FP.l2d y12)), (.int (1 : Int32)), (.ref b6)])) rfl rfl (hb hby at_28)
  have V15 : Arv Z h15 b6 k6 .double (8 : Int32) [(.double (FP.l2d y7)), (.double (FP.l2d y12)), (.double (FP.l2d (0 : Int64))), (.double (FP.l2d (0 : Int64))), (.double (FP.l2d (0 : Int64))), (.double (FP.l2d (0 : Int64))), (.double (FP.l2d (0 : Int64))), (.double (FP.l2d (0 : Int64)))] (.double (FP.l2d (0 : Int64))) := Arv.set Ar14 q14 S14 N14v H14v G14v rfl W15 1 rfl (Nat.le_of_ble_eq_true rfl)
  have N15 := Fr.snoc X15 Nh11 g_b6
  obtain ⟨Lh16, Xh16, Nh16⟩ := own_hide X15 N15
  refine own_pre (B := T15.setTop (mkF m 29 #[.val (.long q1), .second, .val (.int p2), .val (.int p3), .val (.int p4), .val (.ref b6), .unset, .unset, .unset, .unset, .unset, .unset, .unset, .unset, .unset, .unset, .unset] [])) (fun t k => st15 t k) ?_
  refine own_pre (B := T15.setTop (mkF m 31 #[.val (.long q1), .second, .val (.int p2), .val (.int p3), .val (.int p4), .val (.ref b6), .unset, .unset, .unset, .unset, .unset, .unset, .unset, .unset, .unset, .unset, .unset] [(.ref b6)])) (fun t k => XS.aload Xh16.here hx rfl (hb hby at_29) rfl rfl k) ?_
  refine own_pre (B := T15.setTop (mkF m 32 #[.val (.long q1), .second, .val (.int p2), .val (.int p3), .val (.int p4), .val (.ref b6), .unset, .unset, .unset, .unset, .unset, .unset, .unset, .unset, .unset, .unset, .unset] [(.int (2 : Int32)), (.ref b6)])) (fun t k => XS.iconst Xh16.here hx rfl (hb hby at_31) k) ?_
  refine own_pre (B := T15.setTop (mkF m 33 #[.val (.long q1), .second, .val (.int p2), .val (.int p3), .val (.int p4), .val (.ref b6), .unset, .unset, .unset, .unset, .unset, .unset, .unset, .unset, .unset, .unset, .unset] [(.long q1), (.int (2 : Int32)), (.ref b6)])) (fun t k => XS.lloadN Xh16.here hx rfl (hb hby at_32) rfl k) ?_
  refine own_pre (B := T15.setTop (mkF m 35 #[.val (.long q1), .second, .val (.int p2), .val (.int p3), .val (.int p4), .val (.ref b6), .unset, .unset, .unset, .unset, .unset, .unset, .unset, .unset, .unset, .unset, .unset] [(.int (16 : Int32)), (.long q1), (.int (2 : Int32)), (.ref b6)])) (fun t k => XS.bipush Xh16.here hx rfl (hb hby at_33) k) ?_
  refine own_pre (B := T15.setTop (mkF m 36 #[.val (.long q1), .second, .val (.int p2), .val (.int p3), .val (.int p4), .val (.ref b6), .unset, .unset, .unset, .unset, .unset, .unset, .unset, .unset, .unset, .unset, .unset] [(.long ((q1.toUInt64 >>> ((16 : Int32) &&& 0x3f).toInt64.toUInt64).toInt64)), (.int (2 : Int32)), (.ref b6)])) (fun t k => XS.lushr Xh16.here hx rfl (hb hby at_35) rfl k) ?_
  refine own_pre (B := T15.setTop (mkF m 39 #[.val (.long q1), .second, .val (.int p2), .val (.int p3), .val (.int p4), .val (.ref b6), .unset, .unset, .unset, .unset, .unset, .unset, .unset, .unset, .unset, .unset, .unset] [(.long (255 : Int64)), (.long ((q1.toUInt64 >>> ((16 : Int32) &&& 0x3f).toInt64.toUInt64).toInt64)), (.int (2 : Int32)), (.ref b6)])) (fun t k => Xh16.ldc2Long hx hown (mvT hZ (hw _ (ow 1 rfl))) (g := (mkF m 36 #[.val (.long q1), .second, .val (.int p2), .val (.int p3), .val (.int p4), .val (.ref b6), .unset, .unset, .unset, .unset, .unset, .unset, .unset, .unset, .unset, .unset, .unset] [(.long ((q1.toUInt64 >>> ((16 : Int32) &&& 0x3f).toInt64.toUInt64).toInt64)), (.int (2 : Int32)), (.ref b6)])) rfl (hb hby at_36) _ k) ?_
  refine own_pre (B := T15.setTop (mkF m 40 #[.val (.long q1), .second, .val (.int p2), .val (.int p3), .val (.int p4), .val (.ref b6), .unset, .unset, .unset, .unset, .unset, .unset, .unset, .unset, .unset, .unset, .unset] [(.long (((q1.toUInt64 >>> ((16 : Int32) &&& 0x3f).toInt64.toUInt64).toInt64) &&& (255 : Int64))), (.int (2 : Int32)), (.ref b6)])) (fun t k => XS.land Xh16.here hx rfl (hb hby at_39) rfl k) ?_
  obtain ⟨y17, hy17⟩ : ∃ z : Int64, z = (((q1.toUInt64 >>> ((16 : Int32) &&& 0x3f).toInt64.toUInt64).toInt64) &&& (255 : Int64)) := ⟨_, rfl⟩
  refine own_pre (B := T15.setTop (mkF m 41 #[.val (.long q1), .second, .val (.int p2), .val (.int p3), .val (.int p4), .val (.ref b6), .unset, .unset, .unset, .unset, .unset, .unset, .unset, .unset, .unset, .unset, .unset] [(.double (FP.l2d y17)), (.int (2 : Int32)), (.ref b6)])) (fun t k => XS.l2dS Xh16.here hx rfl (hb hby at_40) rfl (congrArg FP.l2d hy17.symm) k) ?_
  have K18 : Keep h0 h15 [] := (Keep.wr K13 W15 (Or.inr s_b6))
  obtain ⟨cl19, Ar19, q19, S19, N19v, H19v, G19v⟩ := V15
  have V15 : Arv Z h15 b6 k6 .double (8 : Int32) [(.double (FP.l2d y7)), (.double (FP.l2d y12)), (.double (FP.l2d (0 : Int64))), (.double (FP.l2d (0 : Int64))), (.double (FP.l2d (0 : Int64))), (.double (FP.l2d (0 : Int64))), (.double (FP.l2d (0 : Int64))), (.double (FP.l2d (0 : Int64)))] (.double (FP.l2d (0 : Int64))) := ⟨cl19, Ar19, q19, S19, N19v, H19v, G19v⟩
  have hin19 : ¬ ((2 : Int32) < 0 ∨ cl19.slots.size ≤ ((2 : Int32)).toNatClampNeg) := inb_of S19 ⟨by decide, by decide⟩
  obtain ⟨T20, h20, X20, e20, W20, st20⟩ := stD Xh16 hx hZ e15 Ar19 (j := (2 : Int32)) hin19 (g := (mkF m 41 #[.val (.long q1), .second, .val (.int p2), .val (.int p3), .val (.int p4), .val (.ref b6), .unset, .unset, .unset, .unset, .unset, .unset, .unset, .unset, .unset, .unset, .unset] [(.double (FP.l2d y17)), (.int (2 : Int32)), (.ref b6)])) rfl rfl (hb hby at_41)
  have V20 : Arv Z h20 b6 k6 .double (8 : Int32) [(.double (FP.l2d y7)), (.double (FP.l2d y12)), (.double (FP.l2d y17)), (.double (FP.l2d (0 : Int64))), (.double (FP.l2d (0 : Int64))), (.double (FP.l2d (0 : Int64))), (.double (FP.l2d (0 : Int64))), (.double (FP.l2d (0 : Int64)))] (.double (FP.l2d (0 : Int64))) := Arv.set Ar19 q19 S19 N19v H19v G19v rfl W20 2 rfl (Nat.le_of_ble_eq_true rfl)
  have N20 := Fr.snoc X20 Nh16 g_b6
  obtain ⟨Lh21, Xh21, Nh21⟩ := own_hide X20 N20
  refine own_pre (B := T20.setTop (mkF m 42 #[.val (.long q1), .second, .val (.int p2), .val (.int p3), .val (.int p4), .val (.ref b6), .unset, .unset, .unset, .unset, .unset, .unset, .unset, .unset, .unset, .unset, .unset] [])) (fun t k => st20 t k) ?_
  refine own_pre (B := T20.setTop (mkF m 44 #[.val (.long q1), .second, .val (.int p2), .val (.int p3), .val (.int p4), .val (.ref b6), .unset, .unset, .unset, .unset, .unset, .unset, .unset, .unset, .unset, .unset, .unset] [(.ref b6)])) (fun t k => XS.aload Xh21.here hx rfl (hb hby at_42) rfl rfl k) ?_
  refine own_pre (B := T20.setTop (mkF m 45 #[.val (.long q1), .second, .val (.int p2), .val (.int p3), .val (.int p4), .val (.ref b6), .unset, .unset, .unset, .unset, .unset, .unset, .unset, .unset, .unset, .unset, .unset] [(.int (3 : Int32)), (.ref b6)])) (fun t k => XS.iconst Xh21.here hx rfl (hb hby at_44) k) ?_
  refine own_pre (B := T20.setTop (mkF m 46 #[.val (.long q1), .second, .val (.int p2), .val (.int p3), .val (.int p4), .val (.ref b6), .unset, .unset, .unset, .unset, .unset, .unset, .unset, .unset, .unset, .unset, .unset] [(.long q1), (.int (3 : Int32)), (.ref b6)])) (fun t k => XS.lloadN Xh21.here hx rfl (hb hby at_45) rfl k) ?_
  refine own_pre (B := T20.setTop (mkF m 48 #[.val (.long q1), .second, .val (.int p2), .val (.int p3), .val (.int p4), .val (.ref b6), .unset, .unset, .unset, .unset, .unset, .unset, .unset, .unset, .unset, .unset, .unset] [(.int (24 : Int32)), (.long q1), (.int (3 : Int32)), (.ref b6)])) (fun t k => XS.bipush Xh21.here hx rfl (hb hby at_46) k) ?_
  refine own_pre (B := T20.setTop (mkF m 49 #[.val (.long q1), .second, .val (.int p2), .val (.int p3), .val (.int p4), .val (.ref b6), .unset, .unset, .unset, .unset, .unset, .unset, .unset, .unset, .unset, .unset, .unset] [(.long ((q1.toUInt64 >>> ((24 : Int32) &&& 0x3f).toInt64.toUInt64).toInt64)), (.int (3 : Int32)), (.ref b6)])) (fun t k => XS.lushr Xh21.here hx rfl (hb hby at_48) rfl k) ?_
  refine own_pre (B := T20.setTop (mkF m 52 #[.val (.long q1), .second, .val (.int p2), .val (.int p3), .val (.int p4), .val (.ref b6), .unset, .unset, .unset, .unset, .unset, .unset, .unset, .unset, .unset, .unset, .unset] [(.long (255 : Int64)), (.long ((q1.toUInt64 >>> ((24 : Int32) &&& 0x3f).toInt64.toUInt64).toInt64)), (.int (3 : Int32)), (.ref b6)])) (fun t k => Xh21.ldc2Long hx hown (mvT hZ (hw _ (ow 1 rfl))) (g := (mkF m 49 #[.val (.long q1), .second, .val (.int p2), .val (.int p3), .val (.int p4), .val (.ref b6), .unset, .unset, .unset, .unset, .unset, .unset, .unset, .unset, .unset, .unset, .unset] [(.long ((q1.toUInt64 >>> ((24 : Int32) &&& 0x3f).toInt64.toUInt64).toInt64)), (.int (3 : Int32)), (.ref b6)])) rfl (hb hby at_49) _ k) ?_
  refine own_pre (B := T20.setTop (mkF m 53 #[.val (.long q1), .second, .val (.int p2), .val (.int p3), .val (.int p4), .val (.ref b6), .unset, .unset, .unset, .unset, .unset, .unset, .unset, .unset, .unset, .unset, .unset] [(.long (((q1.toUInt64 >>> ((24 : Int32) &&& 0x3f).toInt64.toUInt64).toInt64) &&& (255 : Int64))), (.int (3 : Int32)), (.ref b6)])) (fun t k => XS.land Xh21.here hx rfl (hb hby at_52) rfl k) ?_
  obtain ⟨y22, hy22⟩ : ∃ z : Int64, z = (((q1.toUInt64 >>> ((24 : Int32) &&& 0x3f).toInt64.toUInt64).toInt64) &&& (255 : Int64)) := ⟨_, rfl⟩
  refine own_pre (B := T20.setTop (mkF m 54 #[.val (.long q1), .second, .val (.int p2), .val (.int p3), .val (.int p4), .val (.ref b6), .unset, .unset, .unset, .unset, .unset, .unset, .unset, .unset, .unset, .unset, .unset] [(.double (FP.l2d y22)), (.int (3 : Int32)), (.ref b6)])) (fun t k => XS.l2dS Xh21.here hx rfl (hb hby at_53) rfl (congrArg FP.l2d hy22.symm) k) ?_
  have K23 : Keep h0 h20 [] := (Keep.wr K18 W20 (Or.inr s_b6))
  obtain ⟨cl24, Ar24, q24, S24, N24v, H24v, G24v⟩ := V20
  have V20 : Arv Z h20 b6 k6 .double (8 : Int32) [(.double (FP.l2d y7)), (.double (FP.l2d y12)), (.double (FP.l2d y17)), (.double (FP.l2d (0 : Int64))), (.double (FP.l2d (0 : Int64))), (.double (FP.l2d (0 : Int64))), (.double (FP.l2d (0 : Int64))), (.double (FP.l2d (0 : Int64)))] (.double (FP.l2d (0 : Int64))) := ⟨cl24, Ar24, q24, S24, N24v, H24v, G24v⟩
  have hin24 : ¬ ((3 : Int32) < 0 ∨ cl24.slots.size ≤ ((3 : Int32)).toNatClampNeg) := inb_of S24 ⟨by decide, by decide⟩
  obtain ⟨T25, h25, X25, e25, W25, st25⟩ := stD Xh21 hx hZ e20 Ar24 (j := (3 : Int32)) hin24 (g := (mkF m 54 #[.val (.long q1), .second, .val (.int p2), .val (.int p3), .val (.int p4), .val (.ref b6), .unset, .unset, .unset, .unset, .unset, .unset, .unset, .unset, .unset, .unset, .unset] [(.double (FP.l2d y22)), (.int (3 : Int32)), (.ref b6)])) rfl rfl (hb hby at_54)
  have V25 : Arv Z h25 b6 k6 .double (8 : Int32) [(.double (FP.l2d y7)), (.double (FP.l2d y12)), (.double (FP.l2d y17)), (.double (FP.l2d y22)), (.double (FP.l2d (0 : Int64))), (.double (FP.l2d (0 : Int64))), (.double (FP.l2d (0 : Int64))), (.double (FP.l2d (0 : Int64)))] (.double (FP.l2d (0 : Int64))) := Arv.set Ar24 q24 S24 N24v H24v G24v rfl W25 3 rfl (Nat.le_of_ble_eq_true rfl)
  have N25 := Fr.snoc X25 Nh21 g_b6
  obtain ⟨Lh26, Xh26, Nh26⟩ := own_hide X25 N25
  refine own_pre (B := T25.setTop (mkF m 55 #[.val (.long q1), .second, .val (.int p2), .val (.int p3), .val (.int p4), .val (.ref b6), .unset, .unset, .unset, .unset, .unset, .unset, .unset, .unset, .unset, .unset, .unset] [])) (fun t k => st25 t k) ?_
  refine own_pre (B := T25.setTop (mkF m 57 #[.val (.long q1), .second, .val (.int p2), .val (.int p3), .val (.int p4), .val (.ref b6), .unset, .unset, .unset, .unset, .unset, .unset, .unset, .unset, .unset, .unset, .unset] [(.ref b6)])) (fun t k => XS.aload Xh26.here hx rfl (hb hby at_55) rfl rfl k) ?_
  refine own_pre (B := T25.setTop (mkF m 58 #[.val (.long q1), .second, .val (.int p2), .val (.int p3), .val (.int p4), .val (.ref b6), .unset, .unset, .unset, .unset, .unset, .unset, .unset, .unset, .unset, .unset, .unset] [(.int (4 : Int32)), (.ref b6)])) (fun t k => XS.iconst Xh26.here hx rfl (hb hby at_57) k) ?_
  refine own_pre (B := T25.setTop (mkF m 59 #[.val (.long q1), .second, .val (.int p2), .val (.int p3), .val (.int p4), .val (.ref b6), .unset, .unset, .unset, .unset, .unset, .unset, .unset, .unset, .unset, .unset, .unset] [(.long q1), (.int (4 : Int32)), (.ref b6)])) (fun t k => XS.lloadN Xh26.here hx rfl (hb hby at_58) rfl k) ?_
  refine own_pre (B := T25.setTop (mkF m 61 #[.val (.long q1), .second, .val (.int p2), .val (.int p3), .val (.int p4), .val (.ref b6), .unset, .unset, .unset, .unset, .unset, .unset, .unset, .unset, .unset, .unset, .unset] [(.int (32 : Int32)), (.long q1), (.int (4 : Int32)), (.ref b6)])) (fun t k => XS.bipush Xh26.here hx rfl (hb hby at_59) k) ?_
  refine own_pre (B := T25.setTop (mkF m 62 #[.val (.long q1), .second, .val (.int p2), .val (.int p3), .val (.int p4), .val (.ref b6), .unset, .unset, .unset, .unset, .unset, .unset, .unset, .unset, .unset, .unset, .unset] [(.long ((q1.toUInt64 >>> ((32 : Int32) &&& 0x3f).toInt64.toUInt64).toInt64)), (.int (4 : Int32)), (.ref b6)])) (fun t k => XS.lushr Xh26.here hx rfl (hb hby at_61) rfl k) ?_
  refine own_pre (B := T25.setTop (mkF m 65 #[.val (.long q1), .second, .val (.int p2), .val (.int p3), .val (.int p4), .val (.ref b6), .unset, .unset, .unset, .unset, .unset, .unset, .unset, .unset, .unset, .unset, .unset] [(.long (255 : Int64)), (.long ((q1.toUInt64 >>> ((32 : Int32) &&& 0x3f).toInt64.toUInt64).toInt64)), (.int (4 : Int32)), (.ref b6)])) (fun t k => Xh26.ldc2Long hx hown (mvT hZ (hw _ (ow 1 rfl))) (g := (mkF m 62 #[.val (.long q1), .second, .val (.int p2), .val (.int p3), .val (.int p4), .val (.ref b6), .unset, .unset, .unset, .unset, .unset, .unset, .unset, .unset, .unset, .unset, .unset] [(.long ((q1.toUInt64 >>> ((32 : Int32) &&& 0x3f).toInt64.toUInt64).toInt64)), (.int (4 : Int32)), (.ref b6)])) rfl (hb hby at_62) _ k) ?_
  refine own_pre (B := T25.setTop (mkF m 66 #[.val (.long q1), .second, .val (.int p2), .val (.int p3), .val (.int p4), .val (.ref b6), .unset, .unset, .unset, .unset, .unset, .unset, .unset, .unset, .unset, .unset, .unset] [(.long (((q1.toUInt64 >>> ((32 : Int32) &&& 0x3f).toInt64.toUInt64).toInt64) &&& (255 : Int64))), (.int (4 : Int32)), (.ref b6)])) (fun t k => XS.land Xh26.here hx rfl (hb hby at_65) rfl k) ?_
  obtain ⟨y27, hy27⟩ : ∃ z : Int64, z = (((q1.toUInt64 >>> ((32 : Int32) &&& 0x3f).toInt64.toUInt64).toInt64) &&& (255 : Int64)) := ⟨_, rfl⟩
  refine own_pre (B := T25.setTop (mkF m 67 #[.val (.long q1), .second, .val (.int p2), .val (.int p3), .val (.int p4), .val (.ref b6), .unset, .unset, .unset, .unset, .unset, .unset, .unset, .unset, .unset, .unset, .unset] [(.double (FP.l2d y27)), (.int (4 : Int32)), (.ref b6)])) (fun t k => XS.l2dS Xh26.here hx rfl (hb hby at_66) rfl (congrArg FP.l2d hy27.symm) k) ?_
  have K28 : Keep h0 h25 [] := (Keep.wr K23 W25 (Or.inr s_b6))
  obtain ⟨cl29, Ar29, q29, S29, N29v, H29v, G29v⟩ := V25
  have V25 : Arv Z h25 b6 k6 .double (8 : Int32) [(.double (FP.l2d y7)), (.double (FP.l2d y12)), (.double (FP.l2d y17)), (.double (FP.l2d y22)), (.double (FP.l2d (0 : Int64))), (.double (FP.l2d (0 : Int64))), (.double (FP.l2d (0 : Int64))), (.double (FP.l2d (0 : Int64)))] (.double (FP.l2d (0 : Int64))) := ⟨cl29, Ar29, q29, S29, N29v, H29v, G29v⟩
  have hin29 : ¬ ((4 : Int32) < 0 ∨ cl29.slots.size ≤ ((4 : Int32)).toNatClampNeg) := inb_of S29 ⟨by decide, by decide⟩
  obtain ⟨T30, h30, X30, e30, W30, st30⟩ := stD Xh26 hx hZ e25 Ar29 (j := (4 : Int32)) hin29 (g := (mkF m 67 #[.val (.long q1), .second, .val (.int p2), .val (.int p3), .val (.int p4), .val (.ref b6), .unset, .unset, .unset, .unset, .unset, .unset, .unset, .unset, .unset, .unset, .unset] [(.double (FP.l2d y27)), (.int (4 : Int32)), (.ref b6)])) rfl rfl (hb hby at_67)
  have V30 : Arv Z h30 b6 k6 .double (8 : Int32) [(.double (FP.l2d y7)), (.double (FP.l2d y12)), (.double (FP.l2d y17)), (.double (FP.l2d y22)), (.double (FP.l2d y27)), (.double (FP.l2d (0 : Int64))), (.double (FP.l2d (0 : Int64))), (.double (FP.l2d (0 : Int64)))] (.double (FP.l2d (0 : Int64))) := Arv.set Ar29 q29 S29 N29v H29v G29v rfl W30 4 rfl (Nat.le_of_ble_eq_true rfl)
  have N30 := Fr.snoc X30 Nh26 g_b6
  obtain ⟨Lh31, Xh31, Nh31⟩ := own_hide X30 N30
  refine own_pre (B := T30.setTop (mkF m 68 #[.val (.long q1), .second, .val (.int p2), .val (.int p3), .val (.int p4), .val (.ref b6), .unset, .unset, .unset, .unset, .unset, .unset, .unset, .unset, .unset, .unset, .unset] [])) (fun t k => st30 t k) ?_
  refine own_pre (B := T30.setTop (mkF m 70 #[.val (.long q1), .second, .val (.int p2), .val (.int p3), .val (.int p4), .val (.ref b6), .unset, .unset, .unset, .unset, .unset, .unset, .unset, .unset, .unset, .unset, .unset] [(.ref b6)])) (fun t k => XS.aload Xh31.here hx rfl (hb hby at_68) rfl rfl k) ?_
  refine own_pre (B := T30.setTop (mkF m 71 #[.val (.long q1), .second, .val (.int p2), .val (.int p3), .val (.int p4), .val (.ref b6), .unset, .unset, .unset, .unset, .unset, .unset, .unset, .unset, .unset, .unset, .unset] [(.int (5 : Int32)), (.ref b6)])) (fun t k => XS.iconst Xh31.here hx rfl (hb hby at_70) k) ?_
  refine own_pre (B := T30.setTop (mkF m 72 #[.val (.long q1), .second, .val (.int p2), .val (.int p3), .val (.int p4), .val (.ref b6), .unset, .unset, .unset, .unset, .unset, .unset, .unset, .unset, .unset, .unset, .unset] [(.long q1), (.int (5 : Int32)), (.ref b6)])) (fun t k => XS.lloadN Xh31.here hx rfl (hb hby at_71) rfl k) ?_
  refine own_pre (B := T30.setTop (mkF m 74 #[.val (.long q1), .second, .val (.int p2), .val (.int p3), .val (.int p4), .val (.ref b6), .unset, .unset, .unset, .unset, .unset, .unset, .unset, .unset, .unset, .unset, .unset] [(.int (40 : Int32)), (.long q1), (.int (5 : Int32)), (.ref b6)])) (fun t k => XS.bipush Xh31.here hx rfl (hb hby at_72) k) ?_
  refine own_pre (B := T30.setTop (mkF m 75 #[.val (.long q1), .second, .val (.int p2), .val (.int p3), .val (.int p4), .val (.ref b6), .unset, .unset, .unset, .unset, .unset, .unset, .unset, .unset, .unset, .unset, .unset] [(.long ((q1.toUInt64 >>> ((40 : Int32) &&& 0x3f).toInt64.toUInt64).toInt64)), (.int (5 : Int32)), (.ref b6)])) (fun t k => XS.lushr Xh31.here hx rfl (hb hby at_74) rfl k) ?_
  refine own_pre (B := T30.setTop (mkF m 78 #[.val (.long q1), .second, .val (.int p2), .val (.int p3), .val (.int p4), .val (.ref b6), .unset, .unset, .unset, .unset, .unset, .unset, .unset, .unset, .unset, .unset, .unset] [(.long (255 : Int64)), (.long ((q1.toUInt64 >>> ((40 : Int32) &&& 0x3f).toInt64.toUInt64).toInt64)), (.int (5 : Int32)), (.ref b6)])) (fun t k => Xh31.ldc2Long hx hown (mvT hZ (hw _ (ow 1 rfl))) (g := (mkF m 75 #[.val (.long q1), .second, .val (.int p2), .val (.int p3), .val (.int p4), .val (.ref b6), .unset, .unset, .unset, .unset, .unset, .unset, .unset, .unset, .unset, .unset, .unset] [(.long ((q1.toUInt64 >>> ((40 : Int32) &&& 0x3f).toInt64.toUInt64).toInt64)), (.int (5 : Int32)), (.ref b6)])) rfl (hb hby at_75) _ k) ?_
  refine own_pre (B := T30.setTop (mkF m 79 #[.val (.long q1), .second, .val (.int p2), .val (.int p3), .val (.int p4), .val (.ref b6), .unset, .unset, .unset, .unset, .unset, .unset, .unset, .unset, .unset, .unset, .unset] [(.long (((q1.toUInt64 >>> ((40 : Int32) &&& 0x3f).toInt64.toUInt64).toInt64) &&& (255 : Int64))), (.int (5 : Int32)), (.ref b6)])) (fun t k => XS.land Xh31.here hx rfl (hb hby at_78) rfl k) ?_
  obtain ⟨y32, hy32⟩ : ∃ z : Int64, z = (((q1.toUInt64 >>> ((40 : Int32) &&& 0x3f).toInt64.toUInt64).toInt64) &&& (255 : Int64)) := ⟨_, rfl⟩
  refine own_pre (B := T30.setTop (mkF m 80 #[.val (.long q1), .second, .val (.int p2), .val (.int p3), .val (.int p4), .val (.ref b6), .unset, .unset, .unset, .unset, .unset, .unset, .unset, .unset, .unset, .unset, .unset] [(.double (FP.l2d y32)), (.int (5 : Int32)), (.ref b6)])) (fun t k => XS.l2dS Xh31.here hx rfl (hb hby at_79) rfl (congrArg FP.l2d hy32.symm) k) ?_
  have K33 : Keep h0 h30 [] := (Keep.wr K28 W30 (Or.inr s_b6))
  obtain ⟨cl34, Ar34, q34, S34, N34v, H34v, G34v⟩ := V30
  have V30 : Arv Z h30 b6 k6 .double (8 : Int32) [(.double (FP.l2d y7)), (.double (FP.l2d y12)), (.double (FP.l2d y17)), (.double (FP.l2d y22)), (.double (FP.l2d y27)), (.double (FP.l2d (0 : Int64))), (.double (FP.l2d (0 : Int64))), (.double (FP.l2d (0 : Int64)))] (.double (FP.l2d (0 : Int64))) := ⟨cl34, Ar34, q34, S34, N34v, H34v, G34v⟩
  have hin34 : ¬ ((5 : Int32) < 0 ∨ cl34.slots.size ≤ ((5 : Int32)).toNatClampNeg) := inb_of S34 ⟨by decide, by decide⟩
  obtain ⟨T35, h35, X35, e35, W35, st35⟩ := stD Xh31 hx hZ e30 Ar34 (j := (5 : Int32)) hin34 (g := (mkF m 80 #[.val (.long q1), .second, .val (.int p2), .val (.int p3), .val (.int p4), .val (.ref b6), .unset, .unset, .unset, .unset, .unset, .unset, .unset, .unset, .unset, .unset, .unset] [(.double (FP.l2d y32)), (.int (5 : Int32)), (.ref b6)])) rfl rfl (hb hby at_80)
  have V35 : Arv Z h35 b6 k6 .double (8 : Int32) [(.double (FP.l2d y7)), (.double (FP.l2d y12)), (.double (FP.l2d y17)), (.double (FP.l2d y22)), (.double (FP.l2d y27)), (.double (FP.l2d y32)), (.double (FP.l2d (0 : Int64))), (.double (FP.l2d (0 : Int64)))] (.double (FP.l2d (0 : Int64))) := Arv.set Ar34 q34 S34 N34v H34v G34v rfl W35 5 rfl (Nat.le_of_ble_eq_true rfl)
  have N35 := Fr.snoc X35 Nh31 g_b6
  obtain ⟨Lh36, Xh36, Nh36⟩ := own_hide X35 N35
  refine own_pre (B := T35.setTop (mkF m 81 #[.val (.long q1), .second, .val (.int p2), .val (.int p3), .val (.int p4), .val (.ref b6), .unset, .unset, .unset, .unset, .unset, .unset, .unset, .unset, .unset, .unset, .unset] [])) (fun t k => st35 t k) ?_
  refine own_pre (B := T35.setTop (mkF m 83 #[.val (.long q1), .second, .val (.int p2), .val (.int p3), .val (.int p4), .val (.ref b6), .unset, .unset, .unset, .unset, .unset, .unset, .unset, .unset, .unset, .unset, .unset] [(.ref b6)])) (fun t k => XS.aload Xh36.here hx rfl (hb hby at_81) rfl rfl k) ?_
  refine own_pre (B := T35.setTop (mkF m 85 #[.val (.long q1), .second, .val (.int p2), .val (.int p3), .val (.int p4), .val (.ref b6), .unset, .unset, .unset, .unset, .unset, .unset, .unset, .unset, .unset, .unset, .unset] [(.int (6 : Int32)), (.ref b6)])) (fun t k => XS.bipush Xh36.here hx rfl (hb hby at_83) k) ?_
  refine own_pre (B := T35.setTop (mkF m 86 #[.val (.long q1), .second, .val (.int p2), .val (.int p3), .val (.int p4), .val (.ref b6), .unset, .unset, .unset, .unset, .unset, .unset, .unset, .unset, .unset, .unset, .unset] [(.long q1), (.int (6 : Int32)), (.ref b6)])) (fun t k => XS.lloadN Xh36.here hx rfl (hb hby at_85) rfl k) ?_
  refine own_pre (B := T35.setTop (mkF m 88 #[.val (.long q1), .second, .val (.int p2), .val (.int p3), .val (.int p4), .val (.ref b6), .unset, .unset, .unset, .unset, .unset, .unset, .unset, .unset, .unset, .unset, .unset] [(.int (48 : Int32)), (.long q1), (.int (6 : Int32)), (.ref b6)])) (fun t k => XS.bipush Xh36.here hx rfl (hb hby at_86) k) ?_
  refine own_pre (B := T35.setTop (mkF m 89 #[.val (.long q1), .second, .val (.int p2), .val (.int p3), .val (.int p4), .val (.ref b6), .unset, .unset, .unset, .unset, .unset, .unset, .unset, .unset, .unset, .unset, .unset] [(.long ((q1.toUInt64 >>> ((48 : Int32) &&& 0x3f).toInt64.toUInt64).toInt64)), (.int (6 : Int32)), (.ref b6)])) (fun t k => XS.lushr Xh36.here hx rfl (hb hby at_88) rfl k) ?_
  refine own_pre (B := T35.setTop (mkF m 92 #[.val (.long q1), .second, .val (.int p2), .val (.int p3), .val (.int p4), .val (.ref b6), .unset, .unset, .unset, .unset, .unset, .unset, .unset, .unset, .unset, .unset, .unset] [(.long (255 : Int64)), (.long ((q1.toUInt64 >>> ((48 : Int32) &&& 0x3f).toInt64.toUInt64).toInt64)), (.int (6 : Int32)), (.ref b6)])) (fun t k => Xh36.ldc2Long hx hown (mvT hZ (hw _ (ow 1 rfl))) (g := (mkF m 89 #[.val (.long q1), .second, .val (.int p2), .val (.int p3), .val (.int p4), .val (.ref b6), .unset, .unset, .unset, .unset, .unset, .unset, .unset, .unset, .unset, .unset, .unset] [(.long ((q1.toUInt64 >>> ((48 : Int32) &&& 0x3f).toInt64.toUInt64).toInt64)), (.int (6 : Int32)), (.ref b6)])) rfl (hb hby at_89) _ k) ?_
  refine own_pre (B := T35.setTop (mkF m 93 #[.val (.long q1), .second, .val (.int p2), .val (.int p3), .val (.int p4), .val (.ref b6), .unset, .unset, .unset, .unset, .unset, .unset, .unset, .unset, .unset, .unset, .unset] [(.long (((q1.toUInt64 >>> ((48 : Int32) &&& 0x3f).toInt64.toUInt64).toInt64) &&& (255 : Int64))), (.int (6 : Int32)), (.ref b6)])) (fun t k => XS.land Xh36.here hx rfl (hb hby at_92) rfl k) ?_
  obtain ⟨y37, hy37⟩ : ∃ z : Int64, z = (((q1.toUInt64 >>> ((48 : Int32) &&& 0x3f).toInt64.toUInt64).toInt64) &&& (255 : Int64)) := ⟨_, rfl⟩
  refine own_pre (B := T35.setTop (mkF m 94 #[.val (.long q1), .second, .val (.int p2), .val (.int p3), .val (.int p4), .val (.ref b6), .unset, .unset, .unset, .unset, .unset, .unset, .unset, .unset, .unset, .unset, .unset] [(.double (FP.l2d y37)), (.int (6 : Int32)), (.ref b6)])) (fun t k => XS.l2dS Xh36.here hx rfl (hb hby at_93) rfl (congrArg FP.l2d hy37.symm) k) ?_
  have K38 : Keep h0 h35 [] := (Keep.wr K33 W35 (Or.inr s_b6))
  obtain ⟨cl39, Ar39, q39, S39, N39v, H39v, G39v⟩ := V35
  have V35 : Arv Z h35 b6 k6 .double (8 : Int32) [(.double (FP.l2d y7)), (.double (FP.l2d y12)), (.double (FP.l2d y17)), (.double (FP.l2d y22)), (.double (FP.l2d y27)), (.double (FP.l2d y32)), (.double (FP.l2d (0 : Int64))), (.double (FP.l2d (0 : Int64)))] (.double (FP.l2d (0 : Int64))) := ⟨cl39, Ar39, q39, S39, N39v, H39v, G39v⟩
  have hin39 : ¬ ((6 : Int32) < 0 ∨ cl39.slots.size ≤ ((6 : Int32)).toNatClampNeg) := inb_of S39 ⟨by decide, by decide⟩
  obtain ⟨T40, h40, X40, e40, W40, st40⟩ := stD Xh36 hx hZ e35 Ar39 (j := (6 : Int32)) hin39 (g := (mkF m 94 #[.val (.long q1), .second, .val (.int p2), .val (.int p3), .val (.int p4), .val (.ref b6), .unset, .unset, .unset, .unset, .unset, .unset, .unset, .unset, .unset, .unset, .unset] [(.double (FP.l2d y37)), (.int (6 : Int32)), (.ref b6)])) rfl rfl (hb hby at_94)
  have V40 : Arv Z h40 b6 k6 .double (8 : Int32) [(.double (FP.l2d y7)), (.double (FP.l2d y12)), (.double (FP.l2d y17)), (.double (FP.l2d y22)), (.double (FP.l2d y27)), (.double (FP.l2d y32)), (.double (FP.l2d y37)), (.double (FP.l2d (0 : Int64)))] (.double (FP.l2d (0 : Int64))) := Arv.set Ar39 q39 S39 N39v H39v G39v rfl W40 6 rfl (Nat.le_of_ble_eq_true rfl)
  have N40 := Fr.snoc X40 Nh36 g_b6
  obtain ⟨Lh41, Xh41, Nh41⟩ := own_hide X40 N40
  refine own_pre (B := T40.setTop (mkF m 95 #[.val (.long q1), .second, .val (.int p2), .val (.int p3), .val (.int p4), .val (.ref b6), .unset, .unset, .unset, .unset, .unset, .unset, .unset, .unset, .unset, .unset, .unset] [])) (fun t k => st40 t k) ?_
  refine own_pre (B := T40.setTop (mkF m 97 #[.val (.long q1), .second, .val (.int p2), .val (.int p3), .val (.int p4), .val (.ref b6), .unset, .unset, .unset, .unset, .unset, .unset, .unset, .unset, .unset, .unset, .unset] [(.ref b6)])) (fun t k => XS.aload Xh41.here hx rfl (hb hby at_95) rfl rfl k) ?_
  refine own_pre (B := T40.setTop (mkF m 99 #[.val (.long q1), .second, .val (.int p2), .val (.int p3), .val (.int p4), .val (.ref b6), .unset, .unset, .unset, .unset, .unset, .unset, .unset, .unset, .unset, .unset, .unset] [(.int (7 : Int32)), (.ref b6)])) (fun t k => XS.bipush Xh41.here hx rfl (hb hby at_97) k) ?_
  refine own_pre (B := T40.setTop (mkF m 100 #[.val (.long q1), .second, .val (.int p2), .val (.int p3), .val (.int p4), .val (.ref b6), .unset, .unset, .unset, .unset, .unset, .unset, .unset, .unset, .unset, .unset, .unset] [(.long q1), (.int (7 : Int32)), (.ref b6)])) (fun t k => XS.lloadN Xh41.here hx rfl (hb hby at_99) rfl k) ?_
  refine own_pre (B := T40.setTop (mkF m 102 #[.val (.long q1), .second, .val (.int p2), .val (.int p3), .val (.int p4), .val (.ref b6), .unset, .unset, .unset, .unset, .unset, .unset, .unset, .unset, .unset, .unset, .unset] [(.int (56 : Int32)), (.long q1), (.int (7 : Int32)), (.ref b6)])) (fun t k => XS.bipush Xh41.here hx rfl (hb hby at_100) k) ?_
  refine own_pre (B := T40.setTop (mkF m 103 #[.val (.long q1), .second, .val (.int p2), .val (.int p3), .val (.int p4), .val (.ref b6), .unset, .unset, .unset, .unset, .unset, .unset, .unset, .unset, .unset, .unset, .unset] [(.long ((q1.toUInt64 >>> ((56 : Int32) &&& 0x3f).toInt64.toUInt64).toInt64)), (.int (7 : Int32)), (.ref b6)])) (fun t k => XS.lushr Xh41.here hx rfl (hb hby at_102) rfl k) ?_
  refine own_pre (B := T40.setTop (mkF m 106 #[.val (.long q1), .second, .val (.int p2), .val (.int p3), .val (.int p4), .val (.ref b6), .unset, .unset, .unset, .unset, .unset, .unset, .unset, .unset, .unset, .unset, .unset] [(.long (255 : Int64)), (.long ((q1.toUInt64 >>> ((56 : Int32) &&& 0x3f).toInt64.toUInt64).toInt64)), (.int (7 : Int32)), (.ref b6)])) (fun t k => Xh41.ldc2Long hx hown (mvT hZ (hw _ (ow 1 rfl))) (g := (mkF m 103 #[.val (.long q1), .second, .val (.int p2), .val (.int p3), .val (.int p4), .val (.ref b6), .unset, .unset, .unset, .unset, .unset, .unset, .unset, .unset, .unset, .unset, .unset] [(.long ((q1.toUInt64 >>> ((56 : Int32) &&& 0x3f).toInt64.toUInt64).toInt64)), (.int (7 : Int32)), (.ref b6)])) rfl (hb hby at_103) _ k) ?_
  refine own_pre (B := T40.setTop (mkF m 107 #[.val (.long q1), .second, .val (.int p2), .val (.int p3), .val (.int p4), .val (.ref b6), .unset, .unset, .unset, .unset, .unset, .unset, .unset, .unset, .unset, .unset, .unset] [(.long (((q1.toUInt64 >>> ((56 : Int32) &&& 0x3f).toInt64.toUInt64).toInt64) &&& (255 : Int64))), (.int (7 : Int32)), (.ref b6)])) (fun t k => XS.land Xh41.here hx rfl (hb hby at_106) rfl k) ?_
  obtain ⟨y42, hy42⟩ : ∃ z : Int64, z = (((q1.toUInt64 >>> ((56 : Int32) &&& 0x3f).toInt64.toUInt64).toInt64) &&& (255 : Int64)) := ⟨_, rfl⟩
  refine own_pre (B := T40.setTop (mkF m 108 #[.val (.long q1), .second, .val (.int p2), .val (.int p3), .val (.int p4), .val (.ref b6), .unset, .unset, .unset, .unset, .unset, .unset, .unset, .unset, .unset, .unset, .unset] [(.double (FP.l2d y42)), (.int (7 : Int32)), (.ref b6)])) (fun t k => XS.l2dS Xh41.here hx rfl (hb hby at_107) rfl (congrArg FP.l2d hy42.symm) k) ?_
  have K43 : Keep h0 h40 [] := (Keep.wr K38 W40 (Or.inr s_b6))
  obtain ⟨cl44, Ar44, q44, S44, N44v, H44v, G44v⟩ := V40
  have V40 : Arv Z h40 b6 k6 .double (8 : Int32) [(.double (FP.l2d y7)), (.double (FP.l2d y12)), (.double (FP.l2d y17)), (.double (FP.l2d y22)), (.double (FP.l2d y27)), (.double (FP.l2d y32)), (.double (FP.l2d y37)), (.double (FP.l2d (0 : Int64)))] (.double (FP.l2d (0 : Int64))) := ⟨cl44, Ar44, q44, S44, N44v, H44v, G44v⟩
  have hin44 : ¬ ((7 : Int32) < 0 ∨ cl44.slots.size ≤ ((7 : Int32)).toNatClampNeg) := inb_of S44 ⟨by decide, by decide⟩
  obtain ⟨T45, h45, X45, e45, W45, st45⟩ := stD Xh41 hx hZ e40 Ar44 (j := (7 : Int32)) hin44 (g := (mkF m 108 #[.val (.long q1), .second, .val (.int p2), .val (.int p3), .val (.int p4), .val (.ref b6), .unset, .unset, .unset, .unset, .unset, .unset, .unset, .unset, .unset, .unset, .unset] [(.double (FP.l2d y42)), (.int (7 : Int32)), (.ref b6)])) rfl rfl (hb hby at_108)
  have V45 : Arv Z h45 b6 k6 .double (8 : Int32) [(.double (FP.l2d y7)), (.double (FP.l2d y12)), (.double (FP.l2d y17)), (.double (FP.l2d y22)), (.double (FP.l2d y27)), (.double (FP.l2d y32)), (.double (FP.l2d y37)), (.double (FP.l2d y42))] (.double (FP.l2d (0 : Int64))) := Arv.set Ar44 q44 S44 N44v H44v G44v rfl W45 7 rfl (Nat.le_of_ble_eq_true rfl)
  have N45 := Fr.snoc X45 Nh41 g_b6
  obtain ⟨Lh46, Xh46, Nh46⟩ := own_hide X45 N45
  refine own_pre (B := T45.setTop (mkF m 109 #[.val (.long q1), .second, .val (.int p2), .val (.int p3), .val (.int p4), .val (.ref b6), .unset, .unset, .unset, .unset, .unset, .unset, .unset, .unset, .unset, .unset, .unset] [])) (fun t k => st45 t k) ?_
  refine own_pre (B := T45.setTop (mkF m 110 #[.val (.long q1), .second, .val (.int p2), .val (.int p3), .val (.int p4), .val (.ref b6), .unset, .unset, .unset, .unset, .unset, .unset, .unset, .unset, .unset, .unset, .unset] [(.int p2)])) (fun t k => XS.iloadN Xh46.here hx rfl (hb hby at_109) rfl k) ?_
  refine own_pre (B := T45.setTop (mkF m 112 #[.val (.long q1), .second, .val (.int p2), .val (.int p3), .val (.int p4), .val (.ref b6), .unset, .unset, .unset, .unset, .unset, .unset, .unset, .unset, .unset, .unset, .unset] [(.int (8 : Int32)), (.int p2)])) (fun t k => XS.bipush Xh46.here hx rfl (hb hby at_110) k) ?_
  refine own_pre (B := T45.setTop (mkF m 113 #[.val (.long q1), .second, .val (.int p2), .val (.int p3), .val (.int p4), .val (.ref b6), .unset, .unset, .unset, .unset, .unset, .unset, .unset, .unset, .unset, .unset, .unset] [(.int ((p2.toUInt32 >>> ((8 : Int32) &&& 31).toUInt32).toInt32))])) (fun t k => XS.iushr Xh46.here hx rfl (hb hby at_112) rfl k) ?_
  refine own_pre (B := T45.setTop (mkF m 115 #[.val (.long q1), .second, .val (.int p2), .val (.int p3), .val (.int p4), .val (.ref b6), .unset, .unset, .unset, .unset, .unset, .unset, .unset, .unset, .unset, .unset, .unset] [(.int (7 : Int32)), (.int ((p2.toUInt32 >>> ((8 : Int32) &&& 31).toUInt32).toInt32))])) (fun t k => XS.bipush Xh46.here hx rfl (hb hby at_113) k) ?_
  refine own_pre (B := T45.setTop (mkF m 116 #[.val (.long q1), .second, .val (.int p2), .val (.int p3), .val (.int p4), .val (.ref b6), .unset, .unset, .unset, .unset, .unset, .unset, .unset, .unset, .unset, .unset, .unset] [(.int (((p2.toUInt32 >>> ((8 : Int32) &&& 31).toUInt32).toInt32) &&& (7 : Int32)))])) (fun t k => XS.iand Xh46.here hx rfl (hb hby at_115) rfl k) ?_
  refine own_pre (B := T45.setTop (mkF m 117 #[.val (.long q1), .second, .val (.int p2), .val (.int p3), .val (.int p4), .val (.ref b6), .unset, .unset, .unset, .unset, .unset, .unset, .unset, .unset, .unset, .unset, .unset] [(.int (5 : Int32)), (.int (((p2.toUInt32 >>> ((8 : Int32) &&& 31).toUInt32).toInt32) &&& (7 : Int32)))])) (fun t k => XS.iconst Xh46.here hx rfl (hb hby at_116) k) ?_
  refine own_pre (B := T45.setTop (mkF m 118 #[.val (.long q1), .second, .val (.int p2), .val (.int p3), .val (.int p4), .val (.ref b6), .unset, .unset, .unset, .unset, .unset, .unset, .unset, .unset, .unset, .unset, .unset] [(.int ((((p2.toUInt32 >>> ((8 : Int32) &&& 31).toUInt32).toInt32) &&& (7 : Int32)) % (5 : Int32)))])) (fun t k => iremM Xh46 hx rfl (hb hby at_117) rfl (by decide) k) ?_
  refine own_pre (B := T45.setTop (mkF m 120 #[.val (.long q1), .second, .val (.int p2), .val (.int p3), .val (.int p4), .val (.ref b6), .val (.int ((((p2.toUInt32 >>> ((8 : Int32) &&& 31).toUInt32).toInt32) &&& (7 : Int32)) % (5 : Int32))), .unset, .unset, .unset, .unset, .unset, .unset, .unset, .unset, .unset, .unset] [])) (fun t k => XS.istore Xh46.here hx rfl (hb hby at_118) rfl (l' := #[.val (.long q1), .second, .val (.int p2), .val (.int p3), .val (.int p4), .val (.ref b6), .val (.int ((((p2.toUInt32 >>> ((8 : Int32) &&& 31).toUInt32).toInt32) &&& (7 : Int32)) % (5 : Int32))), .unset, .unset, .unset, .unset, .unset, .unset, .unset, .unset, .unset, .unset]) rfl k) ?_
  refine own_pre (B := T45.setTop (mkF m 121 #[.val (.long q1), .second, .val (.int p2), .val (.int p3), .val (.int p4), .val (.ref b6), .val (.int ((((p2.toUInt32 >>> ((8 : Int32) &&& 31).toUInt32).toInt32) &&& (7 : Int32)) % (5 : Int32))), .unset, .unset, .unset, .unset, .unset, .unset, .unset, .unset, .unset, .unset] [(.int p2)])) (fun t k => XS.iloadN Xh46.here hx rfl (hb hby at_120) rfl k) ?_
  refine own_pre (B := T45.setTop (mkF m 123 #[.val (.long q1), .second, .val (.int p2), .val (.int p3), .val (.int p4), .val (.ref b6), .val (.int ((((p2.toUInt32 >>> ((8 : Int32) &&& 31).toUInt32).toInt32) &&& (7 : Int32)) % (5 : Int32))), .unset, .unset, .unset, .unset, .unset, .unset, .unset, .unset, .unset, .unset] [(.int (11 : Int32)), (.int p2)])) (fun t k => XS.bipush Xh46.here hx rfl (hb hby at_121) k) ?_
  refine own_pre (B := T45.setTop (mkF m 124 #[.val (.long q1), .second, .val (.int p2), .val (.int p3), .val (.int p4), .val (.ref b6), .val (.int ((((p2.toUInt32 >>> ((8 : Int32) &&& 31).toUInt32).toInt32) &&& (7 : Int32)) % (5 : Int32))), .unset, .unset, .unset, .unset, .unset, .unset, .unset, .unset, .unset, .unset] [(.int ((p2.toUInt32 >>> ((11 : Int32) &&& 31).toUInt32).toInt32))])) (fun t k => XS.iushr Xh46.here hx rfl (hb hby at_123) rfl k) ?_
  refine own_pre (B := T45.setTop (mkF m 126 #[.val (.long q1), .second, .val (.int p2), .val (.int p3), .val (.int p4), .val (.ref b6), .val (.int ((((p2.toUInt32 >>> ((8 : Int32) &&& 31).toUInt32).toInt32) &&& (7 : Int32)) % (5 : Int32))), .unset, .unset, .unset, .unset, .unset, .unset, .unset, .unset, .unset, .unset] [(.int (7 : Int32)), (.int ((p2.toUInt32 >>> ((11 : Int32) &&& 31).toUInt32).toInt32))])) (fun t k => XS.bipush Xh46.here hx rfl (hb hby at_124) k) ?_
  refine own_pre (B := T45.setTop (mkF m 127 #[.val (.long q1), .second, .val (.int p2), .val (.int p3), .val (.int p4), .val (.ref b6), .val (.int ((((p2.toUInt32 >>> ((8 : Int32) &&& 31).toUInt32).toInt32) &&& (7 : Int32)) % (5 : Int32))), .unset, .unset, .unset, .unset, .unset, .unset, .unset, .unset, .unset, .unset] [(.int (((p2.toUInt32 >>> ((11 : Int32) &&& 31).toUInt32).toInt32) &&& (7 : Int32)))])) (fun t k => XS.iand Xh46.here hx rfl (hb hby at_126) rfl k) ?_
  refine own_pre (B := T45.setTop (mkF m 128 #[.val (.long q1), .second, .val (.int p2), .val (.int p3), .val (.int p4), .val (.ref b6), .val (.int ((((p2.toUInt32 >>> ((8 : Int32) &&& 31).toUInt32).toInt32) &&& (7 : Int32)) % (5 : Int32))), .unset, .unset, .unset, .unset, .unset, .unset, .unset, .unset, .unset, .unset] [(.int (5 : Int32)), (.int (((p2.toUInt32 >>> ((11 : Int32) &&& 31).toUInt32).toInt32) &&& (7 : Int32)))])) (fun t k => XS.iconst Xh46.here hx rfl (hb hby at_127) k) ?_
  refine own_pre (B := T45.setTop (mkF m 129 #[.val (.long q1), .second, .val (.int p2), .val (.int p3), .val (.int p4), .val (.ref b6), .val (.int ((((p2.toUInt32 >>> ((8 : Int32) &&& 31).toUInt32).toInt32) &&& (7 : Int32)) % (5 : Int32))), .unset, .unset, .unset, .unset, .unset, .unset, .unset, .unset, .unset, .unset] [(.int ((((p2.toUInt32 >>> ((11 : Int32) &&& 31).toUInt32).toInt32) &&& (7 : Int32)) % (5 : Int32)))])) (fun t k => iremM Xh46 hx rfl (hb hby at_128) rfl (by decide) k) ?_
  refine own_pre (B := T45.setTop (mkF m 131 #[.val (.long q1), .second, .val (.int p2), .val (.int p3), .val (.int p4), .val (.ref b6), .val (.int ((((p2.toUInt32 >>> ((8 : Int32) &&& 31).toUInt32).toInt32) &&& (7 : Int32)) % (5 : Int32))), .val (.int ((((p2.toUInt32 >>> ((11 : Int32) &&& 31).toUInt32).toInt32) &&& (7 : Int32)) % (5 : Int32))), .unset, .unset, .unset, .unset, .unset, .unset, .unset, .unset, .unset] [])) (fun t k => XS.istore Xh46.here hx rfl (hb hby at_129) rfl (l' := #[.val (.long q1), .second, .val (.int p2), .val (.int p3), .val (.int p4), .val (.ref b6), .val (.int ((((p2.toUInt32 >>> ((8 : Int32) &&& 31).toUInt32).toInt32) &&& (7 : Int32)) % (5 : Int32))), .val (.int ((((p2.toUInt32 >>> ((11 : Int32) &&& 31).toUInt32).toInt32) &&& (7 : Int32)) % (5 : Int32))), .unset, .unset, .unset, .unset, .unset, .unset, .unset, .unset, .unset]) rfl k) ?_
  refine own_pre (B := T45.setTop (mkF m 132 #[.val (.long q1), .second, .val (.int p2), .val (.int p3), .val (.int p4), .val (.ref b6), .val (.int ((((p2.toUInt32 >>> ((8 : Int32) &&& 31).toUInt32).toInt32) &&& (7 : Int32)) % (5 : Int32))), .val (.int ((((p2.toUInt32 >>> ((11 : Int32) &&& 31).toUInt32).toInt32) &&& (7 : Int32)) % (5 : Int32))), .unset, .unset, .unset, .unset, .unset, .unset, .unset, .unset, .unset] [(.int p2)])) (fun t k => XS.iloadN Xh46.here hx rfl (hb hby at_131) rfl k) ?_
  refine own_pre (B := T45.setTop (mkF m 134 #[.val (.long q1), .second, .val (.int p2), .val (.int p3), .val (.int p4), .val (.ref b6), .val (.int ((((p2.toUInt32 >>> ((8 : Int32) &&& 31).toUInt32).toInt32) &&& (7 : Int32)) % (5 : Int32))), .val (.int ((((p2.toUInt32 >>> ((11 : Int32) &&& 31).toUInt32).toInt32) &&& (7 : Int32)) % (5 : Int32))), .unset, .unset, .unset, .unset, .unset, .unset, .unset, .unset, .unset] [(.int ((((p2.toUInt32 >>> ((8 : Int32) &&& 31).toUInt32).toInt32) &&& (7 : Int32)) % (5 : Int32))), (.int p2)])) (fun t k => XS.iload Xh46.here hx rfl (hb hby at_132) rfl k) ?_
  have sz47 : n0 ≤ h45.size := (Nat.le_trans (Nat.le_trans (Nat.le_trans (Nat.le_trans (Nat.le_trans (Nat.le_trans (Nat.le_trans (Nat.le_trans (Nat.le_trans Z0 E6.1) (Keep.of_wr W10).1) (Keep.of_wr W15).1) (Keep.of_wr W20).1) (Keep.of_wr W25).1) (Keep.of_wr W30).1) (Keep.of_wr W35).1) (Keep.of_wr W40).1) (Keep.of_wr W45).1)
  obtain ⟨_, _, ⟨T48, L48, k48, n48⟩, -, X48, ⟨Lc48, hQ48, l48, y48, z48⟩, st48⟩ := Jvm.LawKit.callS Xh46 hx (y := (⟨"com/example/nearjoin/nearjoin/join/PrefixCutStartPinLaw", "bag", "(II)[I"⟩ : MethodName)) hown (mvT hZ (hw _ (ow 2 rfl))) (mvT hZ (hw _ (ow 3 rfl))) (mvT hZ (hw _ (ow 4 rfl))) (mvT hZ (hw _ (ow 5 rfl))) (by decide) (backOf (W := 0) (rm1 l Z a0 hw [] p2 ((((p2.toUInt32 >>> ((8 : Int32) &&& 31).toUInt32).toInt32) &&& (7 : Int32)) % (5 : Int32)) h45 n0 sz47 (own_nn _)) hZ (hw _ (ow 5 rfl)) (hw _ (ow 4 rfl)) (by decide) (by decide)) (g := (mkF m 134 #[.val (.long q1), .second, .val (.int p2), .val (.int p3), .val (.int p4), .val (.ref b6), .val (.int ((((p2.toUInt32 >>> ((8 : Int32) &&& 31).toUInt32).toInt32) &&& (7 : Int32)) % (5 : Int32))), .val (.int ((((p2.toUInt32 >>> ((11 : Int32) &&& 31).toUInt32).toInt32) &&& (7 : Int32)) % (5 : Int32))), .unset, .unset, .unset, .unset, .unset, .unset, .unset, .unset, .unset] [(.int ((((p2.toUInt32 >>> ((8 : Int32) &&& 31).toUInt32).toInt32) &&& (7 : Int32)) % (5 : Int32))), (.int p2)])) rfl (by rw [hml]; rfl) (argsL := [(.int p2), (.int ((((p2.toUInt32 >>> ((8 : Int32) &&& 31).toUInt32).toInt32) &&& (7 : Int32)) % (5 : Int32)))]) (rest := []) (lenOf pd_1 rfl) rfl (by show 2 * 0 + _ ≤ _; exact Nat.le_of_eq rfl) (hb hby at_134) (fun _ _ => ⟨rfl, e45, (by decide : 1 + 1 ≤ _), (by decide : 8 + 4 ≤ _)⟩)
  dsimp only [Pt.U, Pt.locs, Pt.cells, Pt.slots] at X48 l48 y48 z48 st48 hQ48
  subst l48 y48 z48
  obtain ⟨b_48, k_48, s0_48, s1_48, s2_48, s3_48, rfl, N48q, K48, q48g, q48s, q48v, rs0_48, rs1_48, rs2_48, rs3_48⟩ := hQ48
  have N48 := Fr.app Nh46 N48q
  have K49 : Keep h0 h45 [] := (Keep.wr K43 W45 (Or.inr s_b6))
  have ne50 : b6 ≠ b_48 := Nat.ne_of_lt (Nat.lt_of_lt_of_le (Arv.lt V45) q48s)
  have s_b_48 : h0.size ≤ b_48 := Nat.le_trans K49.1 q48s
  obtain ⟨Lh51, Xh51, Nh51⟩ := own_hide X48 N48
  refine own_pre (B := T48.setTop (mkF m 137 #[.val (.long q1), .second, .val (.int p2), .val (.int p3), .val (.int p4), .val (.ref b6), .val (.int ((((p2.toUInt32 >>> ((8 : Int32) &&& 31).toUInt32).toInt32) &&& (7 : Int32)) % (5 : Int32))), .val (.int ((((p2.toUInt32 >>> ((11 : Int32) &&& 31).toUInt32).toInt32) &&& (7 : Int32)) % (5 : Int32))), .unset, .unset, .unset, .unset, .unset, .unset, .unset, .unset, .unset] [(.ref b_48)])) (fun t k => st48 t k) ?_
  refine own_pre (B := T48.setTop (mkF m 139 #[.val (.long q1), .second, .val (.int p2), .val (.int p3), .val (.int p4), .val (.ref b6), .val (.int ((((p2.toUInt32 >>> ((8 : Int32) &&& 31).toUInt32).toInt32) &&& (7 : Int32)) % (5 : Int32))), .val (.int ((((p2.toUInt32 >>> ((11 : Int32) &&& 31).toUInt32).toInt32) &&& (7 : Int32)) % (5 : Int32))), .val (.ref b_48), .unset, .unset, .unset, .unset, .unset, .unset, .unset, .unset] [])) (fun t k => XS.astore Xh51.here hx rfl (hb hby at_137) rfl rfl (l' := #[.val (.long q1), .second, .val (.int p2), .val (.int p3), .val (.int p4), .val (.ref b6), .val (.int ((((p2.toUInt32 >>> ((8 : Int32) &&& 31).toUInt32).toInt32) &&& (7 : Int32)) % (5 : Int32))), .val (.int ((((p2.toUInt32 >>> ((11 : Int32) &&& 31).toUInt32).toInt32) &&& (7 : Int32)) % (5 : Int32))), .val (.ref b_48), .unset, .unset, .unset, .unset, .unset, .unset, .unset, .unset]) rfl k) ?_
  refine own_pre (B := T48.setTop (mkF m 140 #[.val (.long q1), .second, .val (.int p2), .val (.int p3), .val (.int p4), .val (.ref b6), .val (.int ((((p2.toUInt32 >>> ((8 : Int32) &&& 31).toUInt32).toInt32) &&& (7 : Int32)) % (5 : Int32))), .val (.int ((((p2.toUInt32 >>> ((11 : Int32) &&& 31).toUInt32).toInt32) &&& (7 : Int32)) % (5 : Int32))), .val (.ref b_48), .unset, .unset, .unset, .unset, .unset, .unset, .unset, .unset] [(.int p2)])) (fun t k => XS.iloadN Xh51.here hx rfl (hb hby at_139) rfl k) ?_
  refine own_pre (B := T48.setTop (mkF m 141 #[.val (.long q1), .second, .val (.int p2), .val (.int p3), .val (.int p4), .val (.ref b6), .val (.int ((((p2.toUInt32 >>> ((8 : Int32) &&& 31).toUInt32).toInt32) &&& (7 : Int32)) % (5 : Int32))), .val (.int ((((p2.toUInt32 >>> ((11 : Int32) &&& 31).toUInt32).toInt32) &&& (7 : Int32)) % (5 : Int32))), .val (.ref b_48), .unset, .unset, .unset, .unset, .unset, .unset, .unset, .unset] [(.int (4 : Int32)), (.int p2)])) (fun t k => XS.iconst Xh51.here hx rfl (hb hby at_140) k) ?_
  refine own_pre (B := T48.setTop (mkF m 142 #[.val (.long q1), .second, .val (.int p2), .val (.int p3), .val (.int p4), .val (.ref b6), .val (.int ((((p2.toUInt32 >>> ((8 : Int32) &&& 31).toUInt32).toInt32) &&& (7 : Int32)) % (5 : Int32))), .val (.int ((((p2.toUInt32 >>> ((11 : Int32) &&& 31).toUInt32).toInt32) &&& (7 : Int32)) % (5 : Int32))), .val (.ref b_48), .unset, .unset, .unset, .unset, .unset, .unset, .unset, .unset] [(.int ((p2.toUInt32 >>> ((4 : Int32) &&& 31).toUInt32).toInt32))])) (fun t k => XS.iushr Xh51.here hx rfl (hb hby at_141) rfl k) ?_
  refine own_pre (B := T48.setTop (mkF m 144 #[.val (.long q1), .second, .val (.int p2), .val (.int p3), .val (.int p4), .val (.ref b6), .val (.int ((((p2.toUInt32 >>> ((8 : Int32) &&& 31).toUInt32).toInt32) &&& (7 : Int32)) % (5 : Int32))), .val (.int ((((p2.toUInt32 >>> ((11 : Int32) &&& 31).toUInt32).toInt32) &&& (7 : Int32)) % (5 : Int32))), .val (.ref b_48), .unset, .unset, .unset, .unset, .unset, .unset, .unset, .unset] [(.int ((((p2.toUInt32 >>> ((11 : Int32) &&& 31).toUInt32).toInt32) &&& (7 : Int32)) % (5 : Int32))), (.int ((p2.toUInt32 >>> ((4 : Int32) &&& 31).toUInt32).toInt32))])) (fun t k => XS.iload Xh51.here hx rfl (hb hby at_142) rfl k) ?_
  have sz52 : n0 ≤ T48.heap.size := (Nat.le_trans sz47 K48.1)
  obtain ⟨_, _, ⟨T53, L53, k53, n53⟩, -, X53, ⟨Lc53, hQ53, l53, y53, z53⟩, st53⟩ := Jvm.LawKit.callS Xh51 hx (y := (⟨"com/example/nearjoin/nearjoin/join/PrefixCutStartPinLaw", "bag", "(II)[I"⟩ : MethodName)) hown (mvT hZ (hw _ (ow 2 rfl))) (mvT hZ (hw _ (ow 3 rfl))) (mvT hZ (hw _ (ow 4 rfl))) (mvT hZ (hw _ (ow 5 rfl))) (by decide) (backOf (W := 0) (rm1 l Z a0 hw [] ((p2.toUInt32 >>> ((4 : Int32) &&& 31).toUInt32).toInt32) ((((p2.toUInt32 >>> ((11 : Int32) &&& 31).toUInt32).toInt32) &&& (7 : Int32)) % (5 : Int32)) T48.heap n0 sz52 (own_nn _)) hZ (hw _ (ow 5 rfl)) (hw _ (ow 4 rfl)) (by decide) (by decide)) (g := (mkF m 144 #[.val (.long q1), .second, .val (.int p2), .val (.int p3), .val (.int p4), .val (.ref b6), .val (.int ((((p2.toUInt32 >>> ((8 : Int32) &&& 31).toUInt32).toInt32) &&& (7 : Int32)) % (5 : Int32))), .val (.int ((((p2.toUInt32 >>> ((11 : Int32) &&& 31).toUInt32).toInt32) &&& (7 : Int32)) % (5 : Int32))), .val (.ref b_48), .unset, .unset, .unset, .unset, .unset, .unset, .unset, .unset] [(.int ((((p2.toUInt32 >>> ((11 : Int32) &&& 31).toUInt32).toInt32) &&& (7 : Int32)) % (5 : Int32))), (.int ((p2.toUInt32 >>> ((4 : Int32) &&& 31).toUInt32).toInt32))])) rfl (by rw [hml]; rfl) (argsL := [(.int ((p2.toUInt32 >>> ((4 : Int32) &&& 31).toUInt32).toInt32)), (.int ((((p2.toUInt32 >>> ((11 : Int32) &&& 31).toUInt32).toInt32) &&& (7 : Int32)) % (5 : Int32)))]) (rest := []) (lenOf pd_1 rfl) rfl (by show 2 * 0 + _ ≤ _; exact Nat.le_of_eq rfl) (hb hby at_144) (fun _ _ => ⟨rfl, rfl, (by decide : 2 + 1 ≤ _), (by decide : 12 + 4 ≤ _)⟩)
  dsimp only [Pt.U, Pt.locs, Pt.cells, Pt.slots] at X53 l53 y53 z53 st53 hQ53
  subst l53 y53 z53
  obtain ⟨b_53, k_53, s0_53, s1_53, s2_53, s3_53, rfl, N53q, K53, q53g, q53s, q53v, rs0_53, rs1_53, rs2_53, rs3_53⟩ := hQ53
  have N53 := Fr.app Nh51 N53q
  have K54 : Keep h0 T48.heap [] := (Keep.trans K49 K48 all0)
  have c55 := (Arv.keep V45 K48 nin0)
  have ne56 : b6 ≠ b_53 := Nat.ne_of_lt (Nat.lt_of_lt_of_le (Arv.lt c55) q53s)
  have ne57 : b_48 ≠ b_53 := Nat.ne_of_lt (Nat.lt_of_lt_of_le (Arv.lt q48v) q53s)
  have s_b_53 : h0.size ≤ b_53 := Nat.le_trans K54.1 q53s
  obtain ⟨Lh58, Xh58, Nh58⟩ := own_hide X53 N53
  refine own_pre (B := T53.setTop (mkF m 147 #[.val (.long q1), .second, .val (.int p2), .val (.int p3), .val (.int p4), .val (.ref b6), .val (.int ((((p2.toUInt32 >>> ((8 : Int32) &&& 31).toUInt32).toInt32) &&& (7 : Int32)) % (5 : Int32))), .val (.int ((((p2.toUInt32 >>> ((11 : Int32) &&& 31).toUInt32).toInt32) &&& (7 : Int32)) % (5 : Int32))), .val (.ref b_48), .unset, .unset, .unset, .unset, .unset, .unset, .unset, .unset] [(.ref b_53)])) (fun t k => st53 t k) ?_
  refine own_pre (B := T53.setTop (mkF m 149 #[.val (.long q1), .second, .val (.int p2), .val (.int p3), .val (.int p4), .val (.ref b6), .val (.int ((((p2.toUInt32 >>> ((8 : Int32) &&& 31).toUInt32).toInt32) &&& (7 : Int32)) % (5 : Int32))), .val (.int ((((p2.toUInt32 >>> ((11 : Int32) &&& 31).toUInt32).toInt32) &&& (7 : Int32)) % (5 : Int32))), .val (.ref b_48), .val (.ref b_53), .unset, .unset, .unset, .unset, .unset, .unset, .unset] [])) (fun t k => XS.astore Xh58.here hx rfl (hb hby at_147) rfl rfl (l' := #[.val (.long q1), .second, .val (.int p2), .val (.int p3), .val (.int p4), .val (.ref b6), .val (.int ((((p2.toUInt32 >>> ((8 : Int32) &&& 31).toUInt32).toInt32) &&& (7 : Int32)) % (5 : Int32))), .val (.int ((((p2.toUInt32 >>> ((11 : Int32) &&& 31).toUInt32).toInt32) &&& (7 : Int32)) % (5 : Int32))), .val (.ref b_48), .val (.ref b_53), .unset, .unset, .unset, .unset, .unset, .unset, .unset]) rfl k) ?_
  have hW : own_W y7 y12 y17 y22 y27 y32 y37 y42 := ⟨own_Bm hy7, own_Bm hy12, own_Bm hy17, own_Bm hy22, own_Bm hy27, own_Bm hy32, own_Bm hy37, own_Bm hy42⟩
  obtain ⟨ve10, he10⟩ : ∃ z : Int64, z = own_get8 y7 y12 y17 y22 y27 y32 y37 y42 s0_48 := ⟨_, rfl⟩
  have be10 := own_BgetE hW he10
  obtain ⟨ve11, he11⟩ : ∃ z : Int64, z = own_get8 y7 y12 y17 y22 y27 y32 y37 y42 s1_48 := ⟨_, rfl⟩
  have be11 := own_BgetE hW he11
  obtain ⟨ve12, he12⟩ : ∃ z : Int64, z = own_get8 y7 y12 y17 y22 y27 y32 y37 y42 s2_48 := ⟨_, rfl⟩
  have be12 := own_BgetE hW he12
  obtain ⟨ve13, he13⟩ : ∃ z : Int64, z = own_get8 y7 y12 y17 y22 y27 y32 y37 y42 s3_48 := ⟨_, rfl⟩
  have be13 := own_BgetE hW he13
  obtain ⟨ve20, he20⟩ : ∃ z : Int64, z = own_get8 y7 y12 y17 y22 y27 y32 y37 y42 s0_53 := ⟨_, rfl⟩
  have be20 := own_BgetE hW he20
  obtain ⟨ve21, he21⟩ : ∃ z : Int64, z = own_get8 y7 y12 y17 y22 y27 y32 y37 y42 s1_53 := ⟨_, rfl⟩
  have be21 := own_BgetE hW he21
  obtain ⟨ve22, he22⟩ : ∃ z : Int64, z = own_get8 y7 y12 y17 y22 y27 y32 y37 y42 s2_53 := ⟨_, rfl⟩
  have be22 := own_BgetE hW he22
  obtain ⟨ve23, he23⟩ : ∃ z : Int64, z = own_get8 y7 y12 y17 y22 y27 y32 y37 y42 s3_53 := ⟨_, rfl⟩
  have be23 := own_BgetE hW he23
  refine own_pre (B := T53.setTop (mkF m 150 #[.val (.long q1), .second, .val (.int p2), .val (.int p3), .val (.int p4), .val (.ref b6), .val (.int ((((p2.toUInt32 >>> ((8 : Int32) &&& 31).toUInt32).toInt32) &&& (7 : Int32)) % (5 : Int32))), .val (.int ((((p2.toUInt32 >>> ((11 : Int32) &&& 31).toUInt32).toInt32) &&& (7 : Int32)) % (5 : Int32))), .val (.ref b_48), .val (.ref b_53), .unset, .unset, .unset, .unset, .unset, .unset, .unset] [(.int p3)])) (fun t k => XS.iloadN Xh58.here hx rfl (hb hby at_149) rfl k) ?_
  refine own_pre (B := T53.setTop (mkF m 153 #[.val (.long q1), .second, .val (.int p2), .val (.int p3), .val (.int p4), .val (.ref b6), .val (.int ((((p2.toUInt32 >>> ((8 : Int32) &&& 31).toUInt32).toInt32) &&& (7 : Int32)) % (5 : Int32))), .val (.int ((((p2.toUInt32 >>> ((11 : Int32) &&& 31).toUInt32).toInt32) &&& (7 : Int32)) % (5 : Int32))), .val (.ref b_48), .val (.ref b_53), .unset, .unset, .unset, .unset, .unset, .unset, .unset] [(.int (2100 : Int32)), (.int p3)])) (fun t k => XS.sipush Xh58.here hx rfl (hb hby at_150) k) ?_
  refine own_pre (B := T53.setTop (mkF m 154 #[.val (.long q1), .second, .val (.int p2), .val (.int p3), .val (.int p4), .val (.ref b6), .val (.int ((((p2.toUInt32 >>> ((8 : Int32) &&& 31).toUInt32).toInt32) &&& (7 : Int32)) % (5 : Int32))), .val (.int ((((p2.toUInt32 >>> ((11 : Int32) &&& 31).toUInt32).toInt32) &&& (7 : Int32)) % (5 : Int32))), .val (.ref b_48), .val (.ref b_53), .unset, .unset, .unset, .unset, .unset, .unset, .unset] [(.int (p3 % (2100 : Int32)))])) (fun t k => iremM Xh58 hx rfl (hb hby at_153) rfl (by decide) k) ?_
  obtain ⟨y59, hy59, by59⟩ : ∃ z : Int64, z = (p3 % (2100 : Int32)).toInt64 ∧ own_K z := ⟨_, rfl, own_Ki _⟩
  refine own_pre (B := T53.setTop (mkF m 155 #[.val (.long q1), .second, .val (.int p2), .val (.int p3), .val (.int p4), .val (.ref b6), .val (.int ((((p2.toUInt32 >>> ((8 : Int32) &&& 31).toUInt32).toInt32) &&& (7 : Int32)) % (5 : Int32))), .val (.int ((((p2.toUInt32 >>> ((11 : Int32) &&& 31).toUInt32).toInt32) &&& (7 : Int32)) % (5 : Int32))), .val (.ref b_48), .val (.ref b_53), .unset, .unset, .unset, .unset, .unset, .unset, .unset] [(.double (FP.l2d y59))])) (fun t k => XS.i2dS Xh58.here hx rfl (hb hby at_154) rfl ((i2d_w _).trans (congrArg FP.l2d hy59.symm)) k) ?_
  refine own_pre (B := T53.setTop (mkF m 158 #[.val (.long q1), .second, .val (.int p2), .val (.int p3), .val (.int p4), .val (.ref b6), .val (.int ((((p2.toUInt32 >>> ((8 : Int32) &&& 31).toUInt32).toInt32) &&& (7 : Int32)) % (5 : Int32))), .val (.int ((((p2.toUInt32 >>> ((11 : Int32) &&& 31).toUInt32).toInt32) &&& (7 : Int32)) % (5 : Int32))), .val (.ref b_48), .val (.ref b_53), .unset, .unset, .unset, .unset, .unset, .unset, .unset] [(.double (4602678819172646912 : UInt64)), (.double (FP.l2d y59))])) (fun t k => Xh58.ldc2DoubleC hx hown (mvT hZ (hw _ (ow 7 rfl))) (g := (mkF m 155 #[.val (.long q1), .second, .val (.int p2), .val (.int p3), .val (.int p4), .val (.ref b6), .val (.int ((((p2.toUInt32 >>> ((8 : Int32) &&& 31).toUInt32).toInt32) &&& (7 : Int32)) % (5 : Int32))), .val (.int ((((p2.toUInt32 >>> ((11 : Int32) &&& 31).toUInt32).toInt32) &&& (7 : Int32)) % (5 : Int32))), .val (.ref b_48), .val (.ref b_53), .unset, .unset, .unset, .unset, .unset, .unset, .unset] [(.double (FP.l2d y59))])) rfl (hb hby at_155) _ k) ?_
  refine own_pre (B := T53.setTop (mkF m 159 #[.val (.long q1), .second, .val (.int p2), .val (.int p3), .val (.int p4), .val (.ref b6), .val (.int ((((p2.toUInt32 >>> ((8 : Int32) &&& 31).toUInt32).toInt32) &&& (7 : Int32)) % (5 : Int32))), .val (.int ((((p2.toUInt32 >>> ((11 : Int32) &&& 31).toUInt32).toInt32) &&& (7 : Int32)) % (5 : Int32))), .val (.ref b_48), .val (.ref b_53), .unset, .unset, .unset, .unset, .unset, .unset, .unset] [(.double (own_half y59))])) (fun t k => XS.dmulS Xh58.here hx rfl (hb hby at_158) rfl (own_half_nn _) rfl k) ?_
  refine own_pre (B := T53.setTop (mkF m 161 #[.val (.long q1), .second, .val (.int p2), .val (.int p3), .val (.int p4), .val (.ref b6), .val (.int ((((p2.toUInt32 >>> ((8 : Int32) &&& 31).toUInt32).toInt32) &&& (7 : Int32)) % (5 : Int32))), .val (.int ((((p2.toUInt32 >>> ((11 : Int32) &&& 31).toUInt32).toInt32) &&& (7 : Int32)) % (5 : Int32))), .val (.ref b_48), .val (.ref b_53), .val (.double (own_half y59)), .second, .unset, .unset, .unset, .unset, .unset] [])) (fun t k => XS.dstore Xh58.here hx rfl (hb hby at_159) rfl (l' := #[.val (.long q1), .second, .val (.int p2), .val (.int p3), .val (.int p4), .val (.ref b6), .val (.int ((((p2.toUInt32 >>> ((8 : Int32) &&& 31).toUInt32).toInt32) &&& (7 : Int32)) % (5 : Int32))), .val (.int ((((p2.toUInt32 >>> ((11 : Int32) &&& 31).toUInt32).toInt32) &&& (7 : Int32)) % (5 : Int32))), .val (.ref b_48), .val (.ref b_53), .val (.double (own_half y59)), .second, .unset, .unset, .unset, .unset, .unset]) rfl k) ?_
  refine own_pre (B := T53.setTop (mkF m 163 #[.val (.long q1), .second, .val (.int p2), .val (.int p3), .val (.int p4), .val (.ref b6), .val (.int ((((p2.toUInt32 >>> ((8 : Int32) &&& 31).toUInt32).toInt32) &&& (7 : Int32)) % (5 : Int32))), .val (.int ((((p2.toUInt32 >>> ((11 : Int32) &&& 31).toUInt32).toInt32) &&& (7 : Int32)) % (5 : Int32))), .val (.ref b_48), .val (.ref b_53), .val (.double (own_half y59)), .second, .unset, .unset, .unset, .unset, .unset] [(.int p4)])) (fun t k => XS.iload Xh58.here hx rfl (hb hby at_161) rfl k) ?_
  refine own_pre (B := T53.setTop (mkF m 166 #[.val (.long q1), .second, .val (.int p2), .val (.int p3), .val (.int p4), .val (.ref b6), .val (.int ((((p2.toUInt32 >>> ((8 : Int32) &&& 31).toUInt32).toInt32) &&& (7 : Int32)) % (5 : Int32))), .val (.int ((((p2.toUInt32 >>> ((11 : Int32) &&& 31).toUInt32).toInt32) &&& (7 : Int32)) % (5 : Int32))), .val (.ref b_48), .val (.ref b_53), .val (.double (own_half y59)), .second, .unset, .unset, .unset, .unset, .unset] [(.int (2100 : Int32)), (.int p4)])) (fun t k => XS.sipush Xh58.here hx rfl (hb hby at_163) k) ?_
  refine own_pre (B := T53.setTop (mkF m 167 #[.val (.long q1), .second, .val (.int p2), .val (.int p3), .val (.int p4), .val (.ref b6), .val (.int ((((p2.toUInt32 >>> ((8 : Int32) &&& 31).toUInt32).toInt32) &&& (7 : Int32)) % (5 : Int32))), .val (.int ((((p2.toUInt32 >>> ((11 : Int32) &&& 31).toUInt32).toInt32) &&& (7 : Int32)) % (5 : Int32))), .val (.ref b_48), .val (.ref b_53), .val (.double (own_half y59)), .second, .unset, .unset, .unset, .unset, .unset] [(.int (p4 % (2100 : Int32)))])) (fun t k => iremM Xh58 hx rfl (hb hby at_166) rfl (by decide) k) ?_
  obtain ⟨y60, hy60, by60⟩ : ∃ z : Int64, z = (p4 % (2100 : Int32)).toInt64 ∧ own_K z := ⟨_, rfl, own_Ki _⟩
  refine own_pre (B := T53.setTop (mkF m 168 #[.val (.long q1), .second, .val (.int p2), .val (.int p3), .val (.int p4), .val (.ref b6), .val (.int ((((p2.toUInt32 >>> ((8 : Int32) &&& 31).toUInt32).toInt32) &&& (7 : Int32)) % (5 : Int32))), .val (.int ((((p2.toUInt32 >>> ((11 : Int32) &&& 31).toUInt32).toInt32) &&& (7 : Int32)) % (5 : Int32))), .val (.ref b_48), .val (.ref b_53), .val (.double (own_half y59)), .second, .unset, .unset, .unset, .unset, .unset] [(.double (FP.l2d y60))])) (fun t k => XS.i2dS Xh58.here hx rfl (hb hby at_167) rfl ((i2d_w _).trans (congrArg FP.l2d hy60.symm)) k) ?_
  refine own_pre (B := T53.setTop (mkF m 171 #[.val (.long q1), .second, .val (.int p2), .val (.int p3), .val (.int p4), .val (.ref b6), .val (.int ((((p2.toUInt32 >>> ((8 : Int32) &&& 31).toUInt32).toInt32) &&& (7 : Int32)) % (5 : Int32))), .val (.int ((((p2.toUInt32 >>> ((11 : Int32) &&& 31).toUInt32).toInt32) &&& (7 : Int32)) % (5 : Int32))), .val (.ref b_48), .val (.ref b_53), .val (.double (own_half y59)), .second, .unset, .unset, .unset, .unset, .unset] [(.double (4602678819172646912 : UInt64)), (.double (FP.l2d y60))])) (fun t k => Xh58.ldc2DoubleC hx hown (mvT hZ (hw _ (ow 7 rfl))) (g := (mkF m 168 #[.val (.long q1), .second, .val (.int p2), .val (.int p3), .val (.int p4), .val (.ref b6), .val (.int ((((p2.toUInt32 >>> ((8 : Int32) &&& 31).toUInt32).toInt32) &&& (7 : Int32)) % (5 : Int32))), .val (.int ((((p2.toUInt32 >>> ((11 : Int32) &&& 31).toUInt32).toInt32) &&& (7 : Int32)) % (5 : Int32))), .val (.ref b_48), .val (.ref b_53), .val (.double (own_half y59)), .second, .unset, .unset, .unset, .unset, .unset] [(.double (FP.l2d y60))])) rfl (hb hby at_168) _ k) ?_
  refine own_pre (B := T53.setTop (mkF m 172 #[.val (.long q1), .second, .val (.int p2), .val (.int p3), .val (.int p4), .val (.ref b6), .val (.int ((((p2.toUInt32 >>> ((8 : Int32) &&& 31).toUInt32).toInt32) &&& (7 : Int32)) % (5 : Int32))), .val (.int ((((p2.toUInt32 >>> ((11 : Int32) &&& 31).toUInt32).toInt32) &&& (7 : Int32)) % (5 : Int32))), .val (.ref b_48), .val (.ref b_53), .val (.double (own_half y59)), .second, .unset, .unset, .unset, .unset, .unset] [(.double (own_half y60))])) (fun t k => XS.dmulS Xh58.here hx rfl (hb hby at_171) rfl (own_half_nn _) rfl k) ?_
  refine own_pre (B := T53.setTop (mkF m 174 #[.val (.long q1), .second, .val (.int p2), .val (.int p3), .val (.int p4), .val (.ref b6), .val (.int ((((p2.toUInt32 >>> ((8 : Int32) &&& 31).toUInt32).toInt32) &&& (7 : Int32)) % (5 : Int32))), .val (.int ((((p2.toUInt32 >>> ((11 : Int32) &&& 31).toUInt32).toInt32) &&& (7 : Int32)) % (5 : Int32))), .val (.ref b_48), .val (.ref b_53), .val (.double (own_half y59)), .second, .val (.double (own_half y60)), .second, .unset, .unset, .unset] [])) (fun t k => XS.dstore Xh58.here hx rfl (hb hby at_172) rfl (l' := #[.val (.long q1), .second, .val (.int p2), .val (.int p3), .val (.int p4), .val (.ref b6), .val (.int ((((p2.toUInt32 >>> ((8 : Int32) &&& 31).toUInt32).toInt32) &&& (7 : Int32)) % (5 : Int32))), .val (.int ((((p2.toUInt32 >>> ((11 : Int32) &&& 31).toUInt32).toInt32) &&& (7 : Int32)) % (5 : Int32))), .val (.ref b_48), .val (.ref b_53), .val (.double (own_half y59)), .second, .val (.double (own_half y60)), .second, .unset, .unset, .unset]) rfl k) ?_
  have K61 : Keep h0 T53.heap [] := (Keep.trans K54 K53 all0)
  obtain ⟨T62, h62, X62, e62, E62, A62, D62, -, st62⟩ := newO Xh58 hx hZ hown (hw _ (ow 8 rfl)) (hw _ (ow 9 rfl)) (hw _ (ow 10 rfl)) rfl (g := (mkF m 174 #[.val (.long q1), .second, .val (.int p2), .val (.int p3), .val (.int p4), .val (.ref b6), .val (.int ((((p2.toUInt32 >>> ((8 : Int32) &&& 31).toUInt32).toInt32) &&& (7 : Int32)) % (5 : Int32))), .val (.int ((((p2.toUInt32 >>> ((11 : Int32) &&& 31).toUInt32).toInt32) &&& (7 : Int32)) % (5 : Int32))), .val (.ref b_48), .val (.ref b_53), .val (.double (own_half y59)), .second, .val (.double (own_half y60)), .second, .unset, .unset, .unset] [])) rfl (hb hby at_174) (by decide) (by decide)
  have sz63 : n0 ≤ T53.heap.size := (Nat.le_trans sz52 K53.1)
  obtain ⟨b62, g62⟩ : ∃ z, z = T53.heap.size := ⟨_, rfl⟩
  rw [← g62] at A62 D62 st62
  have g_b62 : n0 ≤ b62 := Nat.le_trans sz63 (Nat.le_of_eq g62.symm)
  have s_b62 : h0.size ≤ b62 := Nat.le_trans K61.1 (Nat.le_of_eq g62.symm)
  have c64 := (Arv.keep c55 K53 nin0)
  have ne65 : b6 ≠ b62 := Nat.ne_of_lt (Nat.lt_of_lt_of_le (Arv.lt c64) (Nat.le_of_eq g62.symm))
  have c66 := (Arv.keep q48v K53 nin0)
  have ne67 : b_48 ≠ b62 := Nat.ne_of_lt (Nat.lt_of_lt_of_le (Arv.lt c66) (Nat.le_of_eq g62.symm))
  have ne68 : b_53 ≠ b62 := Nat.ne_of_lt (Nat.lt_of_lt_of_le (Arv.lt q53v) (Nat.le_of_eq g62.symm))
  have F_bag_b62 : Fld Z h62 b62 "com/example/nearjoin/nearjoin/join/PrefixCut" "bag" "[I" .null := D62 (Or.inl (hw _ (ow 18 rfl))) (ty := (.array .int)) (by decide)
  have F_suffix_b62 : Fld Z h62 b62 "com/example/nearjoin/nearjoin/join/PrefixCut" "suffix" "[D" .null := D62 (Or.inl (hw _ (ow 20 rfl))) (ty := (.array .double)) (by decide)
  have F_sorted_b62 : Fld Z h62 b62 "com/example/nearjoin/nearjoin/join/PrefixCut" "sorted" "[D" .null := D62 (Or.inl (hw _ (ow 22 rfl))) (ty := (.array .double)) (by decide)
  have F_heavy_b62 : Fld Z h62 b62 "com/example/nearjoin/nearjoin/join/PrefixCut" "heavy" "[D" .null := D62 (Or.inl (hw _ (ow 24 rfl))) (ty := (.array .double)) (by decide)
  have F_weights_b62 : Fld Z h62 b62 "com/example/nearjoin/nearjoin/join/PrefixCut" "weights" "[D" .null := D62 (Or.inr (hw _ (ow 26 rfl))) (ty := (.array .double)) (by decide)
  have F_least_b62 : Fld Z h62 b62 "com/example/nearjoin/nearjoin/join/PrefixCut" "least" "D" (.double (0 : UInt64)) := D62 (Or.inl (hw _ (ow 33 rfl))) (ty := .double) (by decide)
  have F_heavyCount_b62 : Fld Z h62 b62 "com/example/nearjoin/nearjoin/join/PrefixCut" "heavyCount" "I" (.int (0 : Int32)) := D62 (Or.inl (hw _ (ow 35 rfl))) (ty := .int) (by decide)
  have F_lastLevel_b62 : Fld Z h62 b62 "com/example/nearjoin/nearjoin/join/PrefixCut" "lastLevel" "I" (.int (0 : Int32)) := D62 (Or.inl (hw _ (ow 37 rfl))) (ty := .int) (by decide)
  have F_firstLast_b62 : Fld Z h62 b62 "com/example/nearjoin/nearjoin/join/PrefixCut" "firstLast" "I" (.int (0 : Int32)) := D62 (Or.inl (hw _ (ow 39 rfl))) (ty := .int) (by decide)
  have F_last_b62 : Fld Z h62 b62 "com/example/nearjoin/nearjoin/join/PrefixCut" "last" "I" (.int (0 : Int32)) := D62 (Or.inl (hw _ (ow 41 rfl))) (ty := .int) (by decide)
  refine own_pre (B := T62.setTop (mkF m 177 #[.val (.long q1), .second, .val (.int p2), .val (.int p3), .val (.int p4), .val (.ref b6), .val (.int ((((p2.toUInt32 >>> ((8 : Int32) &&& 31).toUInt32).toInt32) &&& (7 : Int32)) % (5 : Int32))), .val (.int ((((p2.toUInt32 >>> ((11 : Int32) &&& 31).toUInt32).toInt32) &&& (7 : Int32)) % (5 : Int32))), .val (.ref b_48), .val (.ref b_53), .val (.double (own_half y59)), .second, .val (.double (own_half y60)), .second, .unset, .unset, .unset] [(.ref b62)])) (fun t k => st62 t k) ?_
  refine own_pre (B := T62.setTop (mkF m 178 #[.val (.long q1), .second, .val (.int p2), .val (.int p3), .val (.int p4), .val (.ref b6), .val (.int ((((p2.toUInt32 >>> ((8 : Int32) &&& 31).toUInt32).toInt32) &&& (7 : Int32)) % (5 : Int32))), .val (.int ((((p2.toUInt32 >>> ((11 : Int32) &&& 31).toUInt32).toInt32) &&& (7 : Int32)) % (5 : Int32))), .val (.ref b_48), .val (.ref b_53), .val (.double (own_half y59)), .second, .val (.double (own_half y60)), .second, .unset, .unset, .unset] [(.ref b62), (.ref b62)])) (fun t k => XS.dup X62.here hx rfl (hb hby at_177) rfl rfl k) ?_
  refine own_pre (B := T62.setTop (mkF m 180 #[.val (.long q1), .second, .val (.int p2), .val (.int p3), .val (.int p4), .val (.ref b6), .val (.int ((((p2.toUInt32 >>> ((8 : Int32) &&& 31).toUInt32).toInt32) &&& (7 : Int32)) % (5 : Int32))), .val (.int ((((p2.toUInt32 >>> ((11 : Int32) &&& 31).toUInt32).toInt32) &&& (7 : Int32)) % (5 : Int32))), .val (.ref b_48), .val (.ref b_53), .val (.double (own_half y59)), .second, .val (.double (own_half y60)), .second, .unset, .unset, .unset] [(.ref b6), (.ref b62), (.ref b62)])) (fun t k => XS.aload X62.here hx rfl (hb hby at_178) rfl rfl k) ?_
  have sz69 : n0 ≤ h62.size := (Nat.le_trans sz63 E62.1)
  obtain ⟨_, _, ⟨T70, L70, k70, n70⟩, -, X70, ⟨Lc70, hQ70, l70, y70, z70⟩, st70⟩ := X62.specialBack hx (y := (⟨"com/example/nearjoin/nearjoin/join/PrefixCut", "<init>", "([D)V"⟩ : MethodName)) rfl hown (mvT hZ (hw _ (ow 11 rfl))) (mvT hZ (hw _ (ow 12 rfl))) (mvT hZ (hw _ (ow 13 rfl))) (by decide) (backOf (W := 1) (rm2 l Z a0 hw [] b62 b6 (0 : UInt64) (0 : Int32) (0 : Int32) (0 : Int32) (0 : Int32) .null .null .null .null .null h62 n0 sz69 A62 F_least_b62 F_heavyCount_b62 F_lastLevel_b62 F_firstLast_b62 F_last_b62 F_bag_b62 g_b62 F_suffix_b62 F_sorted_b62 F_heavy_b62 F_weights_b62) hZ (hw _ (ow 13 rfl)) (hw _ (ow 10 rfl)) (by decide) (by decide)) (g := (mkF m 180 #[.val (.long q1), .second, .val (.int p2), .val (.int p3), .val (.int p4), .val (.ref b6), .val (.int ((((p2.toUInt32 >>> ((8 : Int32) &&& 31).toUInt32).toInt32) &&& (7 : Int32)) % (5 : Int32))), .val (.int ((((p2.toUInt32 >>> ((11 : Int32) &&& 31).toUInt32).toInt32) &&& (7 : Int32)) % (5 : Int32))), .val (.ref b_48), .val (.ref b_53), .val (.double (own_half y59)), .second, .val (.double (own_half y60)), .second, .unset, .unset, .unset] [(.ref b6), (.ref b62), (.ref b62)])) rfl (by rw [hml]; rfl) (Steps.refl _) (a := b62) (argsL := [(.ref b6)]) (rest := [(.ref b62)]) (lenOf pd_2 rfl) rfl (by show 2 * 0 + _ ≤ _; exact Nat.le_of_eq rfl) (hb hby at_180) (fun _ _ => ⟨rfl, e62, (by decide : 4 + 4 ≤ _), (by decide : 26 + 2 ≤ _)⟩)
  dsimp only [Pt.U, Pt.locs, Pt.cells, Pt.slots] at X70 l70 y70 z70 st70 hQ70
  subst l70 y70 z70
  obtain ⟨b5_70, b14_70, b26_70, b40_70, k5_70, k14_70, k26_70, k40_70, rfl, N70q, K70, q70_0, q70_1, q70_2, q70_3, q70_4, q70_5, q70_6, q70_7, q70_8, q70_9, q70_10, q70_11, q70_12, q70_13, q70_14, q70_15, q70_16, q70_17, q70_18, q70_19, q70_20, q70_21, q70_22, q70_23, q70_24, q70_25, q70_26, q70_27, q70_28⟩ := hQ70
  have N70 := Fr.app Nh58 N70q
  have K71 : Keep h0 h62 [] := (Keep.ext K61 E62)
  have ne72 : b62 ≠ b5_70 := Nat.ne_of_lt (Nat.lt_of_lt_of_le (Exa.lt A62) q70_12)
  have c73 := (Arv.ext c64 E62)
  have ne74 : b6 ≠ b5_70 := Nat.ne_of_lt (Nat.lt_of_lt_of_le (Arv.lt c73) q70_12)
  have c75 := (Arv.ext c66 E62)
  have ne76 : b_48 ≠ b5_70 := Nat.ne_of_lt (Nat.lt_of_lt_of_le (Arv.lt c75) q70_12)
  have c77 := (Arv.ext q53v E62)
  have ne78 : b_53 ≠ b5_70 := Nat.ne_of_lt (Nat.lt_of_lt_of_le (Arv.lt c77) q70_12)
  have s_b5_70 : h0.size ≤ b5_70 := Nat.le_trans K71.1 q70_12
  have ne79 : b62 ≠ b14_70 := Nat.ne_of_lt (Nat.lt_of_lt_of_le (Exa.lt A62) q70_15)
  have ne80 : b6 ≠ b14_70 := Nat.ne_of_lt (Nat.lt_of_lt_of_le (Arv.lt c73) q70_15)
  have ne81 : b_48 ≠ b14_70 := Nat.ne_of_lt (Nat.lt_of_lt_of_le (Arv.lt c75) q70_15)
  have ne82 : b_53 ≠ b14_70 := Nat.ne_of_lt (Nat.lt_of_lt_of_le (Arv.lt c77) q70_15)
  have s_b14_70 : h0.size ≤ b14_70 := Nat.le_trans K71.1 q70_15
  have ne83 : b62 ≠ b26_70 := Nat.ne_of_lt (Nat.lt_of_lt_of_le (Exa.lt A62) q70_18)
  have ne84 : b6 ≠ b26_70 := Nat.ne_of_lt (Nat.lt_of_lt_of_le (Arv.lt c73) q70_18)
  have ne85 : b_48 ≠ b26_70 := Nat.ne_of_lt (Nat.lt_of_lt_of_le (Arv.lt c75) q70_18)
  have ne86 : b_53 ≠ b26_70 := Nat.ne_of_lt (Nat.lt_of_lt_of_le (Arv.lt c77) q70_18)
  have s_b26_70 : h0.size ≤ b26_70 := Nat.le_trans K71.1 q70_18
  have ne87 : b62 ≠ b40_70 := Nat.ne_of_lt (Nat.lt_of_lt_of_le (Exa.lt A62) q70_21)
  have ne88 : b6 ≠ b40_70 := Nat.ne_of_lt (Nat.lt_of_lt_of_le (Arv.lt c73) q70_21)
  have ne89 : b_48 ≠ b40_70 := Nat.ne_of_lt (Nat.lt_of_lt_of_le (Arv.lt c75) q70_21)
  have ne90 : b_53 ≠ b40_70 := Nat.ne_of_lt (Nat.lt_of_lt_of_le (Arv.lt c77) q70_21)
  have s_b40_70 : h0.size ≤ b40_70 := Nat.le_trans K71.1 q70_21
  obtain ⟨Lh91, Xh91, Nh91⟩ := own_hide X70 N70
  refine own_pre (B := T70.setTop (mkF m 183 #[.val (.long q1), .second, .val (.int p2), .val (.int p3), .val (.int p4), .val (.ref b6), .val (.int ((((p2.toUInt32 >>> ((8 : Int32) &&& 31).toUInt32).toInt32) &&& (7 : Int32)) % (5 : Int32))), .val (.int ((((p2.toUInt32 >>> ((11 : Int32) &&& 31).toUInt32).toInt32) &&& (7 : Int32)) % (5 : Int32))), .val (.ref b_48), .val (.ref b_53), .val (.double (own_half y59)), .second, .val (.double (own_half y60)), .second, .unset, .unset, .unset] [(.ref b62)])) (fun t k => st70.trans k) ?_
  refine own_pre (B := T70.setTop (mkF m 185 #[.val (.long q1), .second, .val (.int p2), .val (.int p3), .val (.int p4), .val (.ref b6), .val (.int ((((p2.toUInt32 >>> ((8 : Int32) &&& 31).toUInt32).toInt32) &&& (7 : Int32)) % (5 : Int32))), .val (.int ((((p2.toUInt32 >>> ((11 : Int32) &&& 31).toUInt32).toInt32) &&& (7 : Int32)) % (5 : Int32))), .val (.ref b_48), .val (.ref b_53), .val (.double (own_half y59)), .second, .val (.double (own_half y60)), .second, .val (.ref b62), .unset, .unset] [])) (fun t k => XS.astore Xh91.here hx rfl (hb hby at_183) rfl rfl (l' := #[.val (.long q1), .second, .val (.int p2), .val (.int p3), .val (.int p4), .val (.ref b6), .val (.int ((((p2.toUInt32 >>> ((8 : Int32) &&& 31).toUInt32).toInt32) &&& (7 : Int32)) % (5 : Int32))), .val (.int ((((p2.toUInt32 >>> ((11 : Int32) &&& 31).toUInt32).toInt32) &&& (7 : Int32)) % (5 : Int32))), .val (.ref b_48), .val (.ref b_53), .val (.double (own_half y59)), .second, .val (.double (own_half y60)), .second, .val (.ref b62), .unset, .unset]) rfl k) ?_
  have Vp : Arv Z T70.heap b14_70 k14_70 .double (1 : Int32) [(.double (FP.l2d (0 : Int64))), (.double (FP.l2d (0 : Int64))), (.double (FP.l2d (0 : Int64))), (.double (FP.l2d (0 : Int64))), (.double (FP.l2d (0 : Int64)))] (.double (FP.l2d (0 : Int64))) := Arv.pad q70_16 (pad_rep [(.double (FP.l2d (0 : Int64)))] (.double (FP.l2d (0 : Int64))) 4)
  refine own_pre (B := T70.setTop (mkF m 187 #[.val (.long q1), .second, .val (.int p2), .val (.int p3), .val (.int p4), .val (.ref b6), .val (.int ((((p2.toUInt32 >>> ((8 : Int32) &&& 31).toUInt32).toInt32) &&& (7 : Int32)) % (5 : Int32))), .val (.int ((((p2.toUInt32 >>> ((11 : Int32) &&& 31).toUInt32).toInt32) &&& (7 : Int32)) % (5 : Int32))), .val (.ref b_48), .val (.ref b_53), .val (.double (own_half y59)), .second, .val (.double (own_half y60)), .second, .val (.ref b62), .unset, .unset] [(.ref b62)])) (fun t k => XS.aload Xh91.here hx rfl (hb hby at_185) rfl rfl k) ?_
  refine own_pre (B := T70.setTop (mkF m 189 #[.val (.long q1), .second, .val (.int p2), .val (.int p3), .val (.int p4), .val (.ref b6), .val (.int ((((p2.toUInt32 >>> ((8 : Int32) &&& 31).toUInt32).toInt32) &&& (7 : Int32)) % (5 : Int32))), .val (.int ((((p2.toUInt32 >>> ((11 : Int32) &&& 31).toUInt32).toInt32) &&& (7 : Int32)) % (5 : Int32))), .val (.ref b_48), .val (.ref b_53), .val (.double (own_half y59)), .second, .val (.double (own_half y60)), .second, .val (.ref b62), .unset, .unset] [(.ref b_48), (.ref b62)])) (fun t k => XS.aload Xh91.here hx rfl (hb hby at_187) rfl rfl k) ?_
  refine own_pre (B := T70.setTop (mkF m 191 #[.val (.long q1), .second, .val (.int p2), .val (.int p3), .val (.int p4), .val (.ref b6), .val (.int ((((p2.toUInt32 >>> ((8 : Int32) &&& 31).toUInt32).toInt32) &&& (7 : Int32)) % (5 : Int32))), .val (.int ((((p2.toUInt32 >>> ((11 : Int32) &&& 31).toUInt32).toInt32) &&& (7 : Int32)) % (5 : Int32))), .val (.ref b_48), .val (.ref b_53), .val (.double (own_half y59)), .second, .val (.double (own_half y60)), .second, .val (.ref b62), .unset, .unset] [(.double (own_half y59)), (.ref b_48), (.ref b62)])) (fun t k => XS.dload Xh91.here hx rfl (hb hby at_189) rfl k) ?_
  have c92 := (Arv.keep c73 K70 (ninS ne65 nin0))
  have c93 := (Arv.keep c75 K70 (ninS ne67 nin0))
  have sz94 : n0 ≤ T70.heap.size := (Nat.le_trans sz69 K70.1)
  obtain ⟨cq95, kq95, q95a, q95b, q95c⟩ := isOf hZ rfl q70_0
  obtain ⟨_, _, ⟨T95, L95, k95, n95⟩, -, X95, ⟨Lc95, hQ95, l95, y95, z95⟩, st95⟩ := Xh91.virtualBack hx (y := (⟨"com/example/nearjoin/nearjoin/join/PrefixCut", "start", "([ID)I"⟩ : MethodName)) (z := (⟨"com/example/nearjoin/nearjoin/join/PrefixCut", "start", "([ID)I"⟩ : MethodName)) hown (mvT hZ (hw _ (ow 27 rfl))) (mvT hZ (hw _ (ow 28 rfl))) (notFace_of_selects (args := #[]) (mvT hZ (hw _ (ow 30 rfl)))) (mvT hZ (hw _ (ow 30 rfl))) (mvT hZ (hw _ (ow 29 rfl))) (by decide) (backOf (W := 0) (rm4 l Z a0 hw [] b62 b_48 (own_half y59) b14_70 b6 k14_70 (1 : Int32) (FP.l2d (0 : Int64)) (FP.l2d (0 : Int64)) (FP.l2d (0 : Int64)) (FP.l2d (0 : Int64)) (FP.l2d (0 : Int64)) k6 y7 y12 y17 y22 y27 y32 y37 y42 k_48 ((((p2.toUInt32 >>> ((8 : Int32) &&& 31).toUInt32).toInt32) &&& (7 : Int32)) % (5 : Int32)) s0_48 s1_48 s2_48 s3_48 y59 ve10 ve11 ve12 ve13 (0 : Int32) (0 : Int32) (.ref b5_70) (.double (0 : UInt64)) (.int (0 : Int32)) (.int (0 : Int32)) T70.heap n0 sz94 q70_7 q70_10 q70_0 Vp c92 c93 rfl by59 (own_nn _) he10 be10 rs0_48 he11 be11 rs1_48 he12 be12 rs2_48 he13 be13 rs3_48 ⟨by decide, by decide⟩ ne79 (Ne.symm ne65) (Ne.symm ne67) ne80 ne81 q70_14 g_b62 q70_4 q70_5 q70_6 q70_1 q70_2 q70_3) hZ (hw _ (ow 31 rfl)) (hw _ (ow 10 rfl)) (by decide) (by decide)) q95a q95c (g := (mkF m 191 #[.val (.long q1), .second, .val (.int p2), .val (.int p3), .val (.int p4), .val (.ref b6), .val (.int ((((p2.toUInt32 >>> ((8 : Int32) &&& 31).toUInt32).toInt32) &&& (7 : Int32)) % (5 : Int32))), .val (.int ((((p2.toUInt32 >>> ((11 : Int32) &&& 31).toUInt32).toInt32) &&& (7 : Int32)) % (5 : Int32))), .val (.ref b_48), .val (.ref b_53), .val (.double (own_half y59)), .second, .val (.double (own_half y60)), .second, .val (.ref b62), .unset, .unset] [(.double (own_half y59)), (.ref b_48), (.ref b62)])) rfl (by rw [hml]; rfl) (Steps.refl _) (argsL := [(.ref b_48), (.double (own_half y59))]) (rest := []) (lenOf pd_3 rfl) rfl (by show 2 * 0 + _ ≤ _; exact Nat.le_of_eq rfl) (hb hby at_191) (fun _ _ => ⟨rfl, rfl, (by decide : 8 + 1 ≤ _), (by decide : 28 + 8 ≤ _)⟩)
  dsimp only [Pt.U, Pt.locs, Pt.cells, Pt.slots] at X95 l95 y95 z95 st95 hQ95
  subst l95 y95 z95
  obtain ⟨sx_95, kx_95, nx_95, x0_95, x1_95, x2_95, x3_95, x4_95, fl_95, la_95, rfl, N95q, K95, g95sx, o95sx, hnx95, qE95, qF95_0, qF95_1, qF95_2, qF95_3, qF95_4, qF95_5, qF95_6, qF95_7, qA95⟩ := hQ95
  have N95 := Fr.app Nh91 N95q
  have K96 : Keep h0 T70.heap [] := (Keep.trans K71 K70 (allS (P := fun x => x ∈ [] ∨ h0.size ≤ x) (Or.inr s_b62) all0))
  have ne97 : b62 ≠ sx_95 := own_neq o95sx ne79 (Exa.lt q70_0)
  have ne98 : b6 ≠ sx_95 := own_neq o95sx ne80 (Arv.lt c92)
  have ne99 : b_48 ≠ sx_95 := own_neq o95sx ne81 (Arv.lt c93)
  have c100 := (Arv.keep c77 K70 (ninS ne68 nin0))
  have ne101 : b_53 ≠ sx_95 := own_neq o95sx ne82 (Arv.lt c100)
  have ne102 : b5_70 ≠ sx_95 := own_neq o95sx q70_23 (Arv.lt q70_13)
  have ne103 : b26_70 ≠ sx_95 := own_neq o95sx (Ne.symm q70_26) (Arv.lt q70_19)
  have ne104 : b40_70 ≠ sx_95 := own_neq o95sx (Ne.symm q70_27) (Arv.lt q70_22)
  have s_sx_95 : h0.size ≤ sx_95 := own_frs o95sx s_b14_70 K96.1
  obtain ⟨Lh105, Xh105, Nh105⟩ := own_hide X95 N95
  obtain ⟨z106, hz106⟩ : ∃ z : Int32, z = (own_f4 ((((p2.toUInt32 >>> ((8 : Int32) &&& 31).toUInt32).toInt32) &&& (7 : Int32)) % (5 : Int32)) y59 ve10 ve11 ve12 ve13) := ⟨_, rfl⟩
  rw [← hz106] at st95
  refine own_pre (B := T95.setTop (mkF m 194 #[.val (.long q1), .second, .val (.int p2), .val (.int p3), .val (.int p4), .val (.ref b6), .val (.int ((((p2.toUInt32 >>> ((8 : Int32) &&& 31).toUInt32).toInt32) &&& (7 : Int32)) % (5 : Int32))), .val (.int ((((p2.toUInt32 >>> ((11 : Int32) &&& 31).toUInt32).toInt32) &&& (7 : Int32)) % (5 : Int32))), .val (.ref b_48), .val (.ref b_53), .val (.double (own_half y59)), .second, .val (.double (own_half y60)), .second, .val (.ref b62), .unset, .unset] [(.int z106)])) (fun t k => st95.trans k) ?_
  refine own_pre (B := T95.setTop (mkF m 196 #[.val (.long q1), .second, .val (.int p2), .val (.int p3), .val (.int p4), .val (.ref b6), .val (.int ((((p2.toUInt32 >>> ((8 : Int32) &&& 31).toUInt32).toInt32) &&& (7 : Int32)) % (5 : Int32))), .val (.int ((((p2.toUInt32 >>> ((11 : Int32) &&& 31).toUInt32).toInt32) &&& (7 : Int32)) % (5 : Int32))), .val (.ref b_48), .val (.ref b_53), .val (.double (own_half y59)), .second, .val (.double (own_half y60)), .second, .val (.ref b62), .val (.int z106), .unset] [])) (fun t k => XS.istore Xh105.here hx rfl (hb hby at_194) rfl (l' := #[.val (.long q1), .second, .val (.int p2), .val (.int p3), .val (.int p4), .val (.ref b6), .val (.int ((((p2.toUInt32 >>> ((8 : Int32) &&& 31).toUInt32).toInt32) &&& (7 : Int32)) % (5 : Int32))), .val (.int ((((p2.toUInt32 >>> ((11 : Int32) &&& 31).toUInt32).toInt32) &&& (7 : Int32)) % (5 : Int32))), .val (.ref b_48), .val (.ref b_53), .val (.double (own_half y59)), .second, .val (.double (own_half y60)), .second, .val (.ref b62), .val (.int z106), .unset]) rfl k) ?_
  refine own_pre (B := T95.setTop (mkF m 198 #[.val (.long q1), .second, .val (.int p2), .val (.int p3), .val (.int p4), .val (.ref b6), .val (.int ((((p2.toUInt32 >>> ((8 : Int32) &&& 31).toUInt32).toInt32) &&& (7 : Int32)) % (5 : Int32))), .val (.int ((((p2.toUInt32 >>> ((11 : Int32) &&& 31).toUInt32).toInt32) &&& (7 : Int32)) % (5 : Int32))), .val (.ref b_48), .val (.ref b_53), .val (.double (own_half y59)), .second, .val (.double (own_half y60)), .second, .val (.ref b62), .val (.int z106), .unset] [(.ref b62)])) (fun t k => XS.aload Xh105.here hx rfl (hb hby at_196) rfl rfl k) ?_
  refine own_pre (B := T95.setTop (mkF m 200 #[.val (.long q1), .second, .val (.int p2), .val (.int p3), .val (.int p4), .val (.ref b6), .val (.int ((((p2.toUInt32 >>> ((8 : Int32) &&& 31).toUInt32).toInt32) &&& (7 : Int32)) % (5 : Int32))), .val (.int ((((p2.toUInt32 >>> ((11 : Int32) &&& 31).toUInt32).toInt32) &&& (7 : Int32)) % (5 : Int32))), .val (.ref b_48), .val (.ref b_53), .val (.double (own_half y59)), .second, .val (.double (own_half y60)), .second, .val (.ref b62), .val (.int z106), .unset] [(.ref b_53), (.ref b62)])) (fun t k => XS.aload Xh105.here hx rfl (hb hby at_198) rfl rfl k) ?_
  refine own_pre (B := T95.setTop (mkF m 202 #[.val (.long q1), .second, .val (.int p2), .val (.int p3), .val (.int p4), .val (.ref b6), .val (.int ((((p2.toUInt32 >>> ((8 : Int32) &&& 31).toUInt32).toInt32) &&& (7 : Int32)) % (5 : Int32))), .val (.int ((((p2.toUInt32 >>> ((11 : Int32) &&& 31).toUInt32).toInt32) &&& (7 : Int32)) % (5 : Int32))), .val (.ref b_48), .val (.ref b_53), .val (.double (own_half y59)), .second, .val (.double (own_half y60)), .second, .val (.ref b62), .val (.int z106), .unset] [(.double (own_half y60)), (.ref b_53), (.ref b62)])) (fun t k => XS.dload Xh105.here hx rfl (hb hby at_200) rfl k) ?_
  have c107 := (Arv.keep c92 K95 (ninS ne65 (ninS ne80 nin0)))
  have c108 := (Arv.keep c100 K95 (ninS ne68 (ninS ne82 nin0)))
  have sz109 : n0 ≤ T95.heap.size := (Nat.le_trans sz94 K95.1)
  obtain ⟨cq110, kq110, q110a, q110b, q110c⟩ := isOf hZ rfl qE95
  obtain ⟨_, _, ⟨T110, L110, k110, n110⟩, -, X110, ⟨Lc110, hQ110, l110, y110, z110⟩, st110⟩ := Xh105.virtualBack hx (y := (⟨"com/example/nearjoin/nearjoin/join/PrefixCut", "start", "([ID)I"⟩ : MethodName)) (z := (⟨"com/example/nearjoin/nearjoin/join/PrefixCut", "start", "([ID)I"⟩ : MethodName)) hown (mvT hZ (hw _ (ow 27 rfl))) (mvT hZ (hw _ (ow 28 rfl))) (notFace_of_selects (args := #[]) (mvT hZ (hw _ (ow 30 rfl)))) (mvT hZ (hw _ (ow 30 rfl))) (mvT hZ (hw _ (ow 29 rfl))) (by decide) (backOf (W := 0) (rm4 l Z a0 hw [] b62 b_53 (own_half y60) sx_95 b6 kx_95 nx_95 x0_95 x1_95 x2_95 x3_95 x4_95 k6 y7 y12 y17 y22 y27 y32 y37 y42 k_53 ((((p2.toUInt32 >>> ((11 : Int32) &&& 31).toUInt32).toInt32) &&& (7 : Int32)) % (5 : Int32)) s0_53 s1_53 s2_53 s3_53 y60 ve20 ve21 ve22 ve23 fl_95 la_95 (.ref b_48) (.double (own_half y59)) (.int (-1 : Int32)) (.int (1 : Int32)) T95.heap n0 sz109 qF95_4 qF95_5 qE95 qA95 c107 c108 rfl by60 (own_nn _) he20 be20 rs0_53 he21 be21 rs1_53 he22 be22 rs2_53 he23 be23 rs3_53 (by rw [hnx95]; exact own_N1 (own_nn _)) ne97 (Ne.symm ne65) (Ne.symm ne68) ne98 ne101 g95sx g_b62 qF95_6 qF95_7 qF95_0 qF95_1 qF95_2 qF95_3) hZ (hw _ (ow 31 rfl)) (hw _ (ow 10 rfl)) (by decide) (by decide)) q110a q110c (g := (mkF m 202 #[.val (.long q1), .second, .val (.int p2), .val (.int p3), .val (.int p4), .val (.ref b6), .val (.int ((((p2.toUInt32 >>> ((8 : Int32) &&& 31).toUInt32).toInt32) &&& (7 : Int32)) % (5 : Int32))), .val (.int ((((p2.toUInt32 >>> ((11 : Int32) &&& 31).toUInt32).toInt32) &&& (7 : Int32)) % (5 : Int32))), .val (.ref b_48), .val (.ref b_53), .val (.double (own_half y59)), .second, .val (.double (own_half y60)), .second, .val (.ref b62), .val (.int z106), .unset] [(.double (own_half y60)), (.ref b_53), (.ref b62)])) rfl (by rw [hml]; rfl) (Steps.refl _) (argsL := [(.ref b_53), (.double (own_half y60))]) (rest := []) (lenOf pd_3 rfl) rfl (by show 2 * 0 + _ ≤ _; exact Nat.le_of_eq rfl) (hb hby at_202) (fun _ _ => ⟨rfl, rfl, (by decide : 9 + 1 ≤ _), (by decide : 36 + 8 ≤ _)⟩)
  dsimp only [Pt.U, Pt.locs, Pt.cells, Pt.slots] at X110 l110 y110 z110 st110 hQ110
  subst l110 y110 z110
  obtain ⟨sx_110, kx_110, nx_110, x0_110, x1_110, x2_110, x3_110, x4_110, fl_110, la_110, rfl, N110q, K110, g110sx, o110sx, hnx110, qE110, qF110_0, qF110_1, qF110_2, qF110_3, qF110_4, qF110_5, qF110_6, qF110_7, qA110⟩ := hQ110
  have N110 := Fr.app Nh105 N110q
  have K111 : Keep h0 T95.heap [] := (Keep.trans K96 K95 (allS (P := fun x => x ∈ [] ∨ h0.size ≤ x) (Or.inr s_b62) (allS (P := fun x => x ∈ [] ∨ h0.size ≤ x) (Or.inr s_b14_70) all0)))
  have ne112 : b62 ≠ sx_110 := own_neq o110sx ne97 (Exa.lt qE95)
  have ne113 : b6 ≠ sx_110 := own_neq o110sx ne98 (Arv.lt c107)
  have c114 := (Arv.keep c93 K95 (ninS ne67 (ninS ne81 nin0)))
  have ne115 : b_48 ≠ sx_110 := own_neq o110sx ne99 (Arv.lt c114)
  have ne116 : b_53 ≠ sx_110 := own_neq o110sx ne101 (Arv.lt c108)
  have c117 := (Arv.keep q70_13 K95 (ninS (Ne.symm ne72) (ninS q70_23 nin0)))
  have ne118 : b5_70 ≠ sx_110 := own_neq o110sx ne102 (Arv.lt c117)
  have c119 := (Arv.keep q70_19 K95 (ninS (Ne.symm ne83) (ninS (Ne.symm q70_26) nin0)))
  have ne120 : b26_70 ≠ sx_110 := own_neq o110sx ne103 (Arv.lt c119)
  have c121 := (Arv.keep q70_22 K95 (ninS (Ne.symm ne87) (ninS (Ne.symm q70_27) nin0)))
  have ne122 : b40_70 ≠ sx_110 := own_neq o110sx ne104 (Arv.lt c121)
  have s_sx_110 : h0.size ≤ sx_110 := own_frs o110sx s_sx_95 K111.1
  obtain ⟨Lh123, Xh123, Nh123⟩ := own_hide X110 N110
  obtain ⟨z124, hz124⟩ : ∃ z : Int32, z = (own_f4 ((((p2.toUInt32 >>> ((11 : Int32) &&& 31).toUInt32).toInt32) &&& (7 : Int32)) % (5 : Int32)) y60 ve20 ve21 ve22 ve23) := ⟨_, rfl⟩
  rw [← hz124] at st110
  refine own_pre (B := T110.setTop (mkF m 205 #[.val (.long q1), .second, .val (.int p2), .val (.int p3), .val (.int p4), .val (.ref b6), .val (.int ((((p2.toUInt32 >>> ((8 : Int32) &&& 31).toUInt32).toInt32) &&& (7 : Int32)) % (5 : Int32))), .val (.int ((((p2.toUInt32 >>> ((11 : Int32) &&& 31).toUInt32).toInt32) &&& (7 : Int32)) % (5 : Int32))), .val (.ref b_48), .val (.ref b_53), .val (.double (own_half y59)), .second, .val (.double (own_half y60)), .second, .val (.ref b62), .val (.int z106), .unset] [(.int z124)])) (fun t k => st110.trans k) ?_
  refine own_pre (B := T110.setTop (mkF m 207 #[.val (.long q1), .second, .val (.int p2), .val (.int p3), .val (.int p4), .val (.ref b6), .val (.int ((((p2.toUInt32 >>> ((8 : Int32) &&& 31).toUInt32).toInt32) &&& (7 : Int32)) % (5 : Int32))), .val (.int ((((p2.toUInt32 >>> ((11 : Int32) &&& 31).toUInt32).toInt32) &&& (7 : Int32)) % (5 : Int32))), .val (.ref b_48), .val (.ref b_53), .val (.double (own_half y59)), .second, .val (.double (own_half y60)), .second, .val (.ref b62), .val (.int z106), .val (.int z124)] [])) (fun t k => XS.istore Xh123.here hx rfl (hb hby at_205) rfl (l' := #[.val (.long q1), .second, .val (.int p2), .val (.int p3), .val (.int p4), .val (.ref b6), .val (.int ((((p2.toUInt32 >>> ((8 : Int32) &&& 31).toUInt32).toInt32) &&& (7 : Int32)) % (5 : Int32))), .val (.int ((((p2.toUInt32 >>> ((11 : Int32) &&& 31).toUInt32).toInt32) &&& (7 : Int32)) % (5 : Int32))), .val (.ref b_48), .val (.ref b_53), .val (.double (own_half y59)), .second, .val (.double (own_half y60)), .second, .val (.ref b62), .val (.int z106), .val (.int z124)]) rfl k) ?_
  refine own_pre (B := T110.setTop (mkF m 209 #[.val (.long q1), .second, .val (.int p2), .val (.int p3), .val (.int p4), .val (.ref b6), .val (.int ((((p2.toUInt32 >>> ((8 : Int32) &&& 31).toUInt32).toInt32) &&& (7 : Int32)) % (5 : Int32))), .val (.int ((((p2.toUInt32 >>> ((11 : Int32) &&& 31).toUInt32).toInt32) &&& (7 : Int32)) % (5 : Int32))), .val (.ref b_48), .val (.ref b_53), .val (.double (own_half y59)), .second, .val (.double (own_half y60)), .second, .val (.ref b62), .val (.int z106), .val (.int z124)] [(.int z106)])) (fun t k => XS.iload Xh123.here hx rfl (hb hby at_207) rfl k) ?_
  refine own_pre (B := T110.setTop (mkF m 211 #[.val (.long q1), .second, .val (.int p2), .val (.int p3), .val (.int p4), .val (.ref b6), .val (.int ((((p2.toUInt32 >>> ((8 : Int32) &&& 31).toUInt32).toInt32) &&& (7 : Int32)) % (5 : Int32))), .val (.int ((((p2.toUInt32 >>> ((11 : Int32) &&& 31).toUInt32).toInt32) &&& (7 : Int32)) % (5 : Int32))), .val (.ref b_48), .val (.ref b_53), .val (.double (own_half y59)), .second, .val (.double (own_half y60)), .second, .val (.ref b62), .val (.int z106), .val (.int z124)] [(.ref b6), (.int z106)])) (fun t k => XS.aload Xh123.here hx rfl (hb hby at_209) rfl rfl k) ?_
  refine own_pre (B := T110.setTop (mkF m 213 #[.val (.long q1), .second, .val (.int p2), .val (.int p3), .val (.int p4), .val (.ref b6), .val (.int ((((p2.toUInt32 >>> ((8 : Int32) &&& 31).toUInt32).toInt32) &&& (7 : Int32)) % (5 : Int32))), .val (.int ((((p2.toUInt32 >>> ((11 : Int32) &&& 31).toUInt32).toInt32) &&& (7 : Int32)) % (5 : Int32))), .val (.ref b_48), .val (.ref b_53), .val (.double (own_half y59)), .second, .val (.double (own_half y60)), .second, .val (.ref b62), .val (.int z106), .val (.int z124)] [(.ref b_48), (.ref b6), (.int z106)])) (fun t k => XS.aload Xh123.here hx rfl (hb hby at_211) rfl rfl k) ?_
  refine own_pre (B := T110.setTop (mkF m 215 #[.val (.long q1), .second, .val (.int p2), .val (.int p3), .val (.int p4), .val (.ref b6), .val (.int ((((p2.toUInt32 >>> ((8 : Int32) &&& 31).toUInt32).toInt32) &&& (7 : Int32)) % (5 : Int32))), .val (.int ((((p2.toUInt32 >>> ((11 : Int32) &&& 31).toUInt32).toInt32) &&& (7 : Int32)) % (5 : Int32))), .val (.ref b_48), .val (.ref b_53), .val (.double (own_half y59)), .second, .val (.double (own_half y60)), .second, .val (.ref b62), .val (.int z106), .val (.int z124)] [(.double (own_half y59)), (.ref b_48), (.ref b6), (.int z106)])) (fun t k => XS.dload Xh123.here hx rfl (hb hby at_213) rfl k) ?_
  have c125 := (Arv.keep c107 K110 (ninS ne65 (ninS ne98 nin0)))
  have c126 := (Arv.keep c114 K110 (ninS ne67 (ninS ne99 nin0)))
  have sz127 : n0 ≤ T110.heap.size := (Nat.le_trans sz109 K110.1)
  obtain ⟨_, _, ⟨T128, L128, k128, n128⟩, -, X128, ⟨Lc128, hQ128, l128, y128, z128⟩, st128⟩ := Jvm.LawKit.callS Xh123 hx (y := (⟨"com/example/nearjoin/nearjoin/join/PrefixCutStartPinLaw", "expect", "([D[ID)I"⟩ : MethodName)) hown (mvT hZ (hw _ (ow 42 rfl))) (mvT hZ (hw _ (ow 43 rfl))) (mvT hZ (hw _ (ow 4 rfl))) (mvT hZ (hw _ (ow 44 rfl))) (by decide) (backOf (W := 1) (rm5 l Z a0 hw [] b6 b_48 (own_half y59) k6 y7 y12 y17 y22 y27 y32 y37 y42 k_48 ((((p2.toUInt32 >>> ((8 : Int32) &&& 31).toUInt32).toInt32) &&& (7 : Int32)) % (5 : Int32)) s0_48 s1_48 s2_48 s3_48 y59 ve10 ve11 ve12 ve13 T110.heap n0 sz127 c125 c126 rfl by59 (own_nn _) he10 be10 rs0_48 he11 be11 rs1_48 he12 be12 rs2_48 he13 be13 rs3_48) hZ (hw _ (ow 44 rfl)) (hw _ (ow 4 rfl)) (by decide) (by decide)) (g := (mkF m 215 #[.val (.long q1), .second, .val (.int p2), .val (.int p3), .val (.int p4), .val (.ref b6), .val (.int ((((p2.toUInt32 >>> ((8 : Int32) &&& 31).toUInt32).toInt32) &&& (7 : Int32)) % (5 : Int32))), .val (.int ((((p2.toUInt32 >>> ((11 : Int32) &&& 31).toUInt32).toInt32) &&& (7 : Int32)) % (5 : Int32))), .val (.ref b_48), .val (.ref b_53), .val (.double (own_half y59)), .second, .val (.double (own_half y60)), .second, .val (.ref b62), .val (.int z106), .val (.int z124)] [(.double (own_half y59)), (.ref b_48), (.ref b6), (.int z106)])) rfl (by rw [hml]; rfl) (argsL := [(.ref b6), (.ref b_48), (.double (own_half y59))]) (rest := [(.int z106)]) (lenOf pd_4 rfl) rfl (by show 2 * 0 + _ ≤ _; exact Nat.le_of_eq rfl) (hb hby at_215) (fun _ _ => ⟨rfl, rfl, (by decide : 10 + 0 ≤ _), (by decide : 44 + 0 ≤ _)⟩)
  dsimp only [Pt.U, Pt.locs, Pt.cells, Pt.slots] at X128 l128 y128 z128 st128 hQ128
  subst l128 y128 z128
  obtain ⟨rfl, N128q, e128⟩ := hQ128
  have N128 := Fr.app Nh123 N128q
  obtain ⟨Lh129, Xh129, Nh129⟩ := own_hide X128 N128
  obtain ⟨z130, hz130⟩ : ∃ z : Int32, z = (own_f5 ((((p2.toUInt32 >>> ((8 : Int32) &&& 31).toUInt32).toInt32) &&& (7 : Int32)) % (5 : Int32)) y59 ve10 ve11 ve12 ve13) := ⟨_, rfl⟩
  rw [← hz130] at st128
  refine own_pre (B := T128.setTop (mkF m 218 #[.val (.long q1), .second, .val (.int p2), .val (.int p3), .val (.int p4), .val (.ref b6), .val (.int ((((p2.toUInt32 >>> ((8 : Int32) &&& 31).toUInt32).toInt32) &&& (7 : Int32)) % (5 : Int32))), .val (.int ((((p2.toUInt32 >>> ((11 : Int32) &&& 31).toUInt32).toInt32) &&& (7 : Int32)) % (5 : Int32))), .val (.ref b_48), .val (.ref b_53), .val (.double (own_half y59)), .second, .val (.double (own_half y60)), .second, .val (.ref b62), .val (.int z106), .val (.int z124)] [(.int z130), (.int z106)])) (fun t k => st128 t k) ?_
  refine own_pre (B := T128.setTop (mkF m 221 #[.val (.long q1), .second, .val (.int p2), .val (.int p3), .val (.int p4), .val (.ref b6), .val (.int ((((p2.toUInt32 >>> ((8 : Int32) &&& 31).toUInt32).toInt32) &&& (7 : Int32)) % (5 : Int32))), .val (.int ((((p2.toUInt32 >>> ((11 : Int32) &&& 31).toUInt32).toInt32) &&& (7 : Int32)) % (5 : Int32))), .val (.ref b_48), .val (.ref b_53), .val (.double (own_half y59)), .second, .val (.double (own_half y60)), .second, .val (.ref b62), .val (.int z106), .val (.int z124)] [])) (fun t k => XS.icmpNo Xh129.here hx rfl (hb hby at_218) rfl (teq (hz106.trans ((own_eq (own_nn _) be10 be11 be12 be13).trans hz130.symm))).2 k) ?_
  refine own_pre (B := T128.setTop (mkF m 223 #[.val (.long q1), .second, .val (.int p2), .val (.int p3), .val (.int p4), .val (.ref b6), .val (.int ((((p2.toUInt32 >>> ((8 : Int32) &&& 31).toUInt32).toInt32) &&& (7 : Int32)) % (5 : Int32))), .val (.int ((((p2.toUInt32 >>> ((11 : Int32) &&& 31).toUInt32).toInt32) &&& (7 : Int32)) % (5 : Int32))), .val (.ref b_48), .val (.ref b_53), .val (.double (own_half y59)), .second, .val (.double (own_half y60)), .second, .val (.ref b62), .val (.int z106), .val (.int z124)] [(.int z124)])) (fun t k => XS.iload Xh129.here hx rfl (hb hby at_221) rfl k) ?_
  refine own_pre (B := T128.setTop (mkF m 225 #[.val (.long q1), .second, .val (.int p2), .val (.int p3), .val (.int p4), .val (.ref b6), .val (.int ((((p2.toUInt32 >>> ((8 : Int32) &&& 31).toUInt32).toInt32) &&& (7 : Int32)) % (5 : Int32))), .val (.int ((((p2.toUInt32 >>> ((11 : Int32) &&& 31).toUInt32).toInt32) &&& (7 : Int32)) % (5 : Int32))), .val (.ref b_48), .val (.ref b_53), .val (.double (own_half y59)), .second, .val (.double (own_half y60)), .second, .val (.ref b62), .val (.int z106), .val (.int z124)] [(.ref b6), (.int z124)])) (fun t k => XS.aload Xh129.here hx rfl (hb hby at_223) rfl rfl k) ?_
  refine own_pre (B := T128.setTop (mkF m 227 #[.val (.long q1), .second, .val (.int p2), .val (.int p3), .val (.int p4), .val (.ref b6), .val (.int ((((p2.toUInt32 >>> ((8 : Int32) &&& 31).toUInt32).toInt32) &&& (7 : Int32)) % (5 : Int32))), .val (.int ((((p2.toUInt32 >>> ((11 : Int32) &&& 31).toUInt32).toInt32) &&& (7 : Int32)) % (5 : Int32))), .val (.ref b_48), .val (.ref b_53), .val (.double (own_half y59)), .second, .val (.double (own_half y60)), .second, .val (.ref b62), .val (.int z106), .val (.int z124)] [(.ref b_53), (.ref b6), (.int z124)])) (fun t k => XS.aload Xh129.here hx rfl (hb hby at_225) rfl rfl k) ?_
  refine own_pre (B := T128.setTop (mkF m 229 #[.val (.long q1), .second, .val (.int p2), .val (.int p3), .val (.int p4), .val (.ref b6), .val (.int ((((p2.toUInt32 >>> ((8 : Int32) &&& 31).toUInt32).toInt32) &&& (7 : Int32)) % (5 : Int32))), .val (.int ((((p2.toUInt32 >>> ((11 : Int32) &&& 31).toUInt32).toInt32) &&& (7 : Int32)) % (5 : Int32))), .val (.ref b_48), .val (.ref b_53), .val (.double (own_half y59)), .second, .val (.double (own_half y60)), .second, .val (.ref b62), .val (.int z106), .val (.int z124)] [(.double (own_half y60)), (.ref b_53), (.ref b6), (.int z124)])) (fun t k => XS.dload Xh129.here hx rfl (hb hby at_227) rfl k) ?_
  have c131 := (Arv.keep c108 K110 (ninS ne68 (ninS ne101 nin0)))
  obtain ⟨_, _, ⟨T132, L132, k132, n132⟩, -, X132, ⟨Lc132, hQ132, l132, y132, z132⟩, st132⟩ := Jvm.LawKit.callS Xh129 hx (y := (⟨"com/example/nearjoin/nearjoin/join/PrefixCutStartPinLaw", "expect", "([D[ID)I"⟩ : MethodName)) hown (mvT hZ (hw _ (ow 42 rfl))) (mvT hZ (hw _ (ow 43 rfl))) (mvT hZ (hw _ (ow 4 rfl))) (mvT hZ (hw _ (ow 44 rfl))) (by decide) (backOf (W := 1) (rm5 l Z a0 hw [] b6 b_53 (own_half y60) k6 y7 y12 y17 y22 y27 y32 y37 y42 k_53 ((((p2.toUInt32 >>> ((11 : Int32) &&& 31).toUInt32).toInt32) &&& (7 : Int32)) % (5 : Int32)) s0_53 s1_53 s2_53 s3_53 y60 ve20 ve21 ve22 ve23 T110.heap n0 sz127 c125 c131 rfl by60 (own_nn _) he20 be20 rs0_53 he21 be21 rs1_53 he22 be22 rs2_53 he23 be23 rs3_53) hZ (hw _ (ow 44 rfl)) (hw _ (ow 4 rfl)) (by decide) (by decide)) (g := (mkF m 229 #[.val (.long q1), .second, .val (.int p2), .val (.int p3), .val (.int p4), .val (.ref b6), .val (.int ((((p2.toUInt32 >>> ((8 : Int32) &&& 31).toUInt32).toInt32) &&& (7 : Int32)) % (5 : Int32))), .val (.int ((((p2.toUInt32 >>> ((11 : Int32) &&& 31).toUInt32).toInt32) &&& (7 : Int32)) % (5 : Int32))), .val (.ref b_48), .val (.ref b_53), .val (.double (own_half y59)), .second, .val (.double (own_half y60)), .second, .val (.ref b62), .val (.int z106), .val (.int z124)] [(.double (own_half y60)), (.ref b_53), (.ref b6), (.int z124)])) rfl (by rw [hml]; rfl) (argsL := [(.ref b6), (.ref b_53), (.double (own_half y60))]) (rest := [(.int z124)]) (lenOf pd_4 rfl) rfl (by show 2 * 0 + _ ≤ _; exact Nat.le_of_eq rfl) (hb hby at_229) (fun _ _ => ⟨rfl, e128, (by decide : 10 + 0 ≤ _), (by decide : 44 + 0 ≤ _)⟩)
  dsimp only [Pt.U, Pt.locs, Pt.cells, Pt.slots] at X132 l132 y132 z132 st132 hQ132
  subst l132 y132 z132
  obtain ⟨rfl, N132q, e132⟩ := hQ132
  have N132 := Fr.app Nh129 N132q
  obtain ⟨Lh133, Xh133, Nh133⟩ := own_hide X132 N132
  obtain ⟨z134, hz134⟩ : ∃ z : Int32, z = (own_f5 ((((p2.toUInt32 >>> ((11 : Int32) &&& 31).toUInt32).toInt32) &&& (7 : Int32)) % (5 : Int32)) y60 ve20 ve21 ve22 ve23) := ⟨_, rfl⟩
  rw [← hz134] at st132
  refine own_pre (B := T132.setTop (mkF m 232 #[.val (.long q1), .second, .val (.int p2), .val (.int p3), .val (.int p4), .val (.ref b6), .val (.int ((((p2.toUInt32 >>> ((8 : Int32) &&& 31).toUInt32).toInt32) &&& (7 : Int32)) % (5 : Int32))), .val (.int ((((p2.toUInt32 >>> ((11 : Int32) &&& 31).toUInt32).toInt32) &&& (7 : Int32)) % (5 : Int32))), .val (.ref b_48), .val (.ref b_53), .val (.double (own_half y59)), .second, .val (.double (own_half y60)), .second, .val (.ref b62), .val (.int z106), .val (.int z124)] [(.int z134), (.int z124)])) (fun t k => st132 t k) ?_
  refine own_pre (B := T132.setTop (mkF m 235 #[.val (.long q1), .second, .val (.int p2), .val (.int p3), .val (.int p4), .val (.ref b6), .val (.int ((((p2.toUInt32 >>> ((8 : Int32) &&& 31).toUInt32).toInt32) &&& (7 : Int32)) % (5 : Int32))), .val (.int ((((p2.toUInt32 >>> ((11 : Int32) &&& 31).toUInt32).toInt32) &&& (7 : Int32)) % (5 : Int32))), .val (.ref b_48), .val (.ref b_53), .val (.double (own_half y59)), .second, .val (.double (own_half y60)), .second, .val (.ref b62), .val (.int z106), .val (.int z124)] [])) (fun t k => XS.icmpNo Xh133.here hx rfl (hb hby at_232) rfl (teq (hz124.trans ((own_eq (own_nn _) be20 be21 be22 be23).trans hz134.symm))).2 k) ?_
  refine own_pre (B := T132.setTop (mkF m 236 #[.val (.long q1), .second, .val (.int p2), .val (.int p3), .val (.int p4), .val (.ref b6), .val (.int ((((p2.toUInt32 >>> ((8 : Int32) &&& 31).toUInt32).toInt32) &&& (7 : Int32)) % (5 : Int32))), .val (.int ((((p2.toUInt32 >>> ((11 : Int32) &&& 31).toUInt32).toInt32) &&& (7 : Int32)) % (5 : Int32))), .val (.ref b_48), .val (.ref b_53), .val (.double (own_half y59)), .second, .val (.double (own_half y60)), .second, .val (.ref b62), .val (.int z106), .val (.int z124)] [(.int (1 : Int32))])) (fun t k => XS.iconst Xh133.here hx rfl (hb hby at_235) k) ?_
  refine own_pre (B := T132.setTop (mkF m 240 #[.val (.long q1), .second, .val (.int p2), .val (.int p3), .val (.int p4), .val (.ref b6), .val (.int ((((p2.toUInt32 >>> ((8 : Int32) &&& 31).toUInt32).toInt32) &&& (7 : Int32)) % (5 : Int32))), .val (.int ((((p2.toUInt32 >>> ((11 : Int32) &&& 31).toUInt32).toInt32) &&& (7 : Int32)) % (5 : Int32))), .val (.ref b_48), .val (.ref b_53), .val (.double (own_half y59)), .second, .val (.double (own_half y60)), .second, .val (.ref b62), .val (.int z106), .val (.int z124)] [(.int (1 : Int32))])) (fun t k => XS.goto Xh133.here hx rfl (pc0 := 236) (pc' := 240) rfl (hb hby at_236) (by decide) (by decide) k) ?_
  obtain ⟨fsr135, hrr135, hrunr135, hendedr135, hWr135, hsamer135⟩ := Xh133.leave (v := some (.int (1 : Int32))) (fun h => by rw [Bd.returns] at h; cases h)
  refine ⟨_, _, (retN Xh133 hx (t := .boolean) Bd.returns (by simp) (hb hby at_240) hrr135), hrunr135, hendedr135, _, _, rfl, ?_, ⟨_, rfl⟩, hWr135, hsamer135.mono (by decide) (by decide)⟩
  show Q0 Z q1 p2 p3 p4 h0 n0 _ T132.heap _
  rw [e132]
  exact ⟨rfl, Nh133⟩
set_option maxRecDepth 65536 in
set_option maxHeartbeats 40000000 in
theorem comes_1 {Post : Tables → Env → Array Value → State → Outcome → State → Prop} (hpost : ∀ tb e args s v u, (limb_1_1.after args s (.returned v) u = true ∧ limb_1_2.after args s (.returned v) u = true ∧ True) → FrameEnd s (.returned v) u (Jvm.fieldLocs frame_1_writes args s ++ Jvm.arrayLocs frame_1_arrays args s ++ Jvm.staticLocs frame_1_statics s) 32 192 → Post tb e args s (.returned v) u) :
    ArmFor flags0 classFile x code maxLocals ret World_1 tables_1 room_1 Calls_1 rest_1 Pre_1 Post := by
  intro l hfl _ _ p e ha hc hk s m args below hf hA hF happ hP
  obtain ⟨hcalls, hrest, hpre⟩ := hP
  obtain ⟨-, -, -, hnamed, -, -, -, hat⟩ := (Spec.applies_iff hf).mp happ
  obtain ⟨hg, hn⟩ := and_e (Cond.before_iff.mp (show (Jvm.Cond.and given_1 narrow_1).before args s = true from hpre))
  obtain ⟨g1, g2⟩ := and_e hg
  obtain ⟨g3, g4⟩ := and_e g2
  obtain ⟨g5, g6⟩ := and_e g4
  obtain ⟨g7, g8⟩ := and_e g6
  obtain ⟨w0, w1, w2, w3, rfl⟩ : ∃ w0 w1 w2 w3 : Value, args = #[w0, w1, w2, w3] := by
    have hs : args.size = 4 := by simpa [Cond.value, given_1] using g1
    obtain ⟨L⟩ := args
    match L, hs with
    | [w0, w1, w2, w3], _ => exact ⟨w0, w1, w2, w3, rfl⟩
  have hw := fun d (hd : d ∈ tables_1) => atoms_spec (ws := Jvm.Cond.code x code maxLocals ret :: tables_1) hat d (List.mem_cons_of_mem _ hd)
  have hfit : Fit s := fun {y c} hc i hi => by
    obtain ⟨ha, rfl⟩ := Array.getElem?_eq_some_iff.mp hc
    have q := List.all_eq_true.mp ((Array.all_eq_true_iff_forall_mem.mp hF) _ (Array.getElem_mem ha)) i (List.mem_range.mpr hi)
    simpa [Array.getElem?_eq_getElem hi] using q
  obtain ⟨i0, ei0⟩ := isL_v g3
  obtain rfl : w0 = (.long i0) := Option.some.inj ei0
  obtain ⟨i1, ei1⟩ := is_v g5
  obtain rfl : w1 = (.int i1) := Option.some.inj ei1
  obtain ⟨i2, ei2⟩ := is_v g7
  obtain rfl : w2 = (.int i2) := Option.some.inj ei2
  obtain ⟨i3, ei3⟩ := is_v g8
  obtain rfl : w3 = (.int i3) := Option.some.inj ei3
  obtain ⟨n, o, h1, h2, h3, _, L, rfl, ⟨rfl, N⟩, hq⟩ := rm0 l s _ hw tables_1 i0 i1 i2 i3  s.heap s.heap.size (Nat.le_refl _)  p e ha hc hk s m _ below hf ((Spec.applies_iff_loose hf).mp happ).1 ⟨rfl, State.Warmed39.refl s, rfl⟩ trivial
  refine ⟨n, _, h1, h2, h3, hpost _ _ _ _ _ _ ⟨Cond.after_iff.mpr rfl, Cond.after_iff.mpr (eq_i res_at (Term.int_eval (1)) rfl), trivial⟩ ⟨hq.1, hq.2.1, (hq.2.2.sift fun y hy => Or.inr (N y hy)).mono (by decide) (by decide)⟩⟩
theorem main_1_1 : Claimed_1_1 := comes_1 fun _ _ _ _ _ _ h hF => ⟨h.1, hF⟩
theorem main_1_2 : Claimed_1_2 := comes_1 fun _ _ _ _ _ _ h hF => ⟨h.2.1, hF⟩
end Jvm.Pilot.@@N@@
namespace Jvm.Pilot.@@N@@
open Jvm Jvm.ClassFile Sem Op Lib Jvm.Free Jvm.Stand Jvm.Pilot.@@N@@.Jvm.D
/-! MADE BY PROGRAM (witnessworld.py) out of the Statement's table words and the real class files: 12 classes; the members and pool entries that the words name. The judged class is class 1, her method 1. -/
namespace start1
open Jvm.ClassFile
def u (s : String) : CpInfo := .utf8 (stringToUtf16 s)
/-- a pool by its gaps: so many unusable entries, then the entry; so many at the end -/
def gap : Nat → List CpInfo → List CpInfo
  | 0, r => r
  | n + 1, r => .unusable :: gap n r
def poolList (es : List (Nat × CpInfo)) (last : Nat) : List CpInfo := es.foldr (fun e r => gap e.1 (e.2 :: r)) (gap last [])
def pool (es : List (Nat × CpInfo)) (last : Nat) : Array CpInfo := ⟨poolList es last⟩
def fileOf (pool : Array CpInfo) (this : Nat) (attrs : Array Attribute := #[]) (ms : Array MethodInfo := #[]) (fl : Nat := 33) (sup : Nat := 0) (ifs : Array Nat := #[]) (fds : Array FieldInfo := #[]) : ClassFile where
  minorVersion := 0
  majorVersion := 65
  constantPool := pool
  accessFlags := fl
  thisClass := this
  superClass := sup
  interfaces := ifs
  fields := fds
  methods := ms
  attributes := attrs
def plain (name : String) (sup : Option ClassId) : Class where
  name := name
  kind := .ordinary
  loader := none
  accessFlags := 33
  super := sup
  interfaces := #[]
  cf := none
  fields := #[]
  methods := #[]
  instanceTypes := #[]
  staticTypes := #[]
  resolved := #[]
  callSites := []
  init := .initialized
  statics := none
  mirror := none

def pool0 : Array CpInfo := pool [(5, u "<init>"), (0, u "()V"), (1, .class_ 10), (1, u "java/lang/Object")] 113

def k0c0 : Code := { maxStack := 0, maxLocals := 1, code := object_method_1_code, exceptionTable := #[], attributes := #[] }
def k0m0 : Method := { name := "<init>", desc := "()V", sig := { parameters := [], returnType := none }, accessFlags := 1, code := some k0c0 }
/-- java/lang/Object -/
def k0 : Class := { plain "java/lang/Object" none with
  accessFlags := 33
  interfaces := #[]
  cf := some (fileOf pool0 8 #[] #[{ accessFlags := 1, nameIndex := 5, descriptorIndex := 6, attributes := #[] }] 33 0 #[] #[])
  fields := #[]
  methods := #[k0m0]
  instanceTypes := #[]
  staticTypes := #[]
  resolved := Array.replicate 124 none
  statics := none }

def pool1 : Array CpInfo := pool [(2, .class_ 4), (1, u "java/lang/Object"), (0, u "<init>"), (0, u "()V"), (0, .long 255), (1, .methodref 10 11), (0, .class_ 12), (0, .nameAndType 13 14), (0, u "com/example/nearjoin/nearjoin/join/PrefixCutStartPinLaw"), (0, u "bag"), (0, u "(II)[I"), (0, .double 4602678819172646912), (1, .class_ 18), (0, u "com/example/nearjoin/nearjoin/join/PrefixCut"), (0, .methodref 17 20), (0, .nameAndType 5 21), (0, u "([D)V"), (0, .methodref 17 23), (0, .nameAndType 24 25), (0, u "start"), (0, u "([ID)I"), (0, .methodref 10 27), (0, .nameAndType 28 29), (0, u "expect"), (0, u "([D[ID)I"), (2, u "law"), (0, u "(JIII)Z")] 7

def k1m0 : Method := { name := "<init>", desc := "()V", sig := { parameters := [], returnType := none }, accessFlags := 1, code := none }
def k1c1 : Code := { maxStack := 6, maxLocals := 17, code := code, exceptionTable := #[], attributes := #[] }
def k1m1 : Method := { name := "law", desc := "(JIII)Z", sig := { parameters := [.long, .int, .int, .int], returnType := some .boolean }, accessFlags := 9, code := some k1c1 }
def k1c2 : Code := { maxStack := 3, maxLocals := 7, code := method_3_code, exceptionTable := #[], attributes := #[] }
def k1m2 : Method := { name := "bag", desc := "(II)[I", sig := { parameters := [.int, .int], returnType := some (.array .int) }, accessFlags := 10, code := some k1c2 }
def k1c3 : Code := { maxStack := 4, maxLocals := 22, code := method_4_code, exceptionTable := #[], attributes := #[] }
def k1m3 : Method := { name := "expect", desc := "([D[ID)I", sig := { parameters := [(.array .double), (.array .int), .double], returnType := some .int }, accessFlags := 10, code := some k1c3 }
/-- com/example/nearjoin/nearjoin/join/PrefixCutStartPinLaw -/
def k1 : Class := { plain "com/example/nearjoin/nearjoin/join/PrefixCutStartPinLaw" (some 0) with
  accessFlags := 49
  interfaces := #[]
  cf := some (fileOf pool1 10 #[] #[{ accessFlags := 1, nameIndex := 5, descriptorIndex := 6, attributes := #[] }, { accessFlags := 9, nameIndex := 32, descriptorIndex := 33, attributes := #[] }, { accessFlags := 10, nameIndex := 13, descriptorIndex := 14, attributes := #[] }, { accessFlags := 10, nameIndex := 28, descriptorIndex := 29, attributes := #[] }] 49 2 #[] #[])
  fields := #[]
  methods := #[k1m0, k1m1, k1m2, k1m3]
  instanceTypes := #[]
  staticTypes := #[]
  resolved := Array.replicate 41 none
  statics := none }

def pool2 : Array CpInfo := pool [(1, .methodref 2 3), (0, .class_ 4), (0, .nameAndType 5 6), (0, u "java/lang/Object"), (0, u "<init>"), (0, u "()V"), (0, .fieldref 8 9), (0, .class_ 10), (0, .nameAndType 11 12), (0, u "com/example/nearjoin/nearjoin/join/PrefixCut"), (0, u "bag"), (0, u "[I"), (0, .fieldref 8 14), (0, .nameAndType 15 16), (0, u "suffix"), (0, u "[D"), (0, .fieldref 8 18), (0, .nameAndType 19 16), (0, u "sorted"), (0, .fieldref 8 21), (0, .nameAndType 22 16), (0, u "heavy"), (0, .fieldref 8 24), (0, .nameAndType 25 16), (0, u "weights"), (0, .fieldref 8 27), (0, .nameAndType 28 29), (0, u "least"), (0, u "D"), (0, .fieldref 8 31), (0, .nameAndType 32 33), (0, u "heavyCount"), (0, u "I"), (0, .fieldref 8 35), (0, .nameAndType 36 33), (0, u "lastLevel"), (0, .methodref 38 39), (0, .class_ 40), (0, .nameAndType 41 42), (0, u "java/lang/Math"), (0, u "max"), (0, u "(II)I"), (0, .fieldref 8 44), (0, .nameAndType 45 33), (0, u "firstLast"), (0, .fieldref 8 47), (0, .nameAndType 48 33), (0, u "last"), (13, u "([D)V"), (2, u "start"), (0, u "([ID)I")] 5

def k2c0 : Code := { maxStack := 2, maxLocals := 2, code := prog_47_method_1_code, exceptionTable := #[], attributes := #[] }
def k2m0 : Method := { name := "<init>", desc := "([D)V", sig := { parameters := [(.array .double)], returnType := none }, accessFlags := 0, code := some k2c0 }
def k2c1 : Code := { maxStack := 6, maxLocals := 7, code := prog_47_method_2_code, exceptionTable := #[], attributes := #[] }
def k2m1 : Method := { name := "start", desc := "([ID)I", sig := { parameters := [(.array .int), .double], returnType := some .int }, accessFlags := 0, code := some k2c1 }
/-- com/example/nearjoin/nearjoin/join/PrefixCut -/
def k2 : Class := { plain "com/example/nearjoin/nearjoin/join/PrefixCut" (some 0) with
  accessFlags := 48
  interfaces := #[]
  cf := some (fileOf pool2 8 #[] #[{ accessFlags := 0, nameIndex := 5, descriptorIndex := 62, attributes := #[] }, { accessFlags := 0, nameIndex := 65, descriptorIndex := 66, attributes := #[] }] 48 2 #[] #[{ accessFlags := 18, nameIndex := 25, descriptorIndex := 16, attributes := #[] }, { accessFlags := 2, nameIndex := 11, descriptorIndex := 12, attributes := #[] }, { accessFlags := 2, nameIndex := 28, descriptorIndex := 29, attributes := #[] }, { accessFlags := 2, nameIndex := 15, descriptorIndex := 16, attributes := #[] }, { accessFlags := 2, nameIndex := 45, descriptorIndex := 33, attributes := #[] }, { accessFlags := 2, nameIndex := 48, descriptorIndex := 33, attributes := #[] }, { accessFlags := 2, nameIndex := 36, descriptorIndex := 33, attributes := #[] }, { accessFlags := 2, nameIndex := 19, descriptorIndex := 16, attributes := #[] }, { accessFlags := 2, nameIndex := 22, descriptorIndex := 16, attributes := #[] }, { accessFlags := 2, nameIndex := 32, descriptorIndex := 33, attributes := #[] }])
  fields := #[{ name := "weights", type := (.array .double), accessFlags := 18, slot := 0, constantValue := 0 }, { name := "bag", type := (.array .int), accessFlags := 2, slot := 1, constantValue := 0 }, { name := "least", type := .double, accessFlags := 2, slot := 2, constantValue := 0 }, { name := "suffix", type := (.array .double), accessFlags := 2, slot := 3, constantValue := 0 }, { name := "firstLast", type := .int, accessFlags := 2, slot := 4, constantValue := 0 }, { name := "last", type := .int, accessFlags := 2, slot := 5, constantValue := 0 }, { name := "lastLevel", type := .int, accessFlags := 2, slot := 6, constantValue := 0 }, { name := "sorted", type := (.array .double), accessFlags := 2, slot := 7, constantValue := 0 }, { name := "heavy", type := (.array .double), accessFlags := 2, slot := 8, constantValue := 0 }, { name := "heavyCount", type := .int, accessFlags := 2, slot := 9, constantValue := 0 }]
  methods := #[k2m0, k2m1]
  instanceTypes := #[(.array .double), (.array .int), .double, (.array .double), .int, .int, .int, (.array .double), (.array .double), .int]
  staticTypes := #[]
  resolved := Array.replicate 72 none
  statics := none }

def pool3 : Array CpInfo := pool [(1, .class_ 2), (0, u "java/lang/Math"), (1, .class_ 6), (1, u "java/lang/Object"), (0, u "<init>"), (0, u "()V"), (89, .class_ 100), (1, u "java/lang/Math$RandomNumberGeneratorHolder"), (71, u "negativeZeroFloatBits"), (0, u "J"), (2, u "negativeZeroDoubleBits"), (21, u "max"), (46, u "$assertionsDisabled"), (0, u "Z"), (88, u "(II)I"), (2, u "twoToTheDoubleScaleDown"), (0, u "D"), (4, u "twoToTheDoubleScaleUp"), (9, u "E"), (3, u "PI"), (2, u "TAU"), (2, u "DEGREES_TO_RADIANS"), (0, u "RADIANS_TO_DEGREES")] 94

def k3m0 : Method := { name := "<init>", desc := "()V", sig := { parameters := [], returnType := none }, accessFlags := 2, code := none }
def k3c1 : Code := { maxStack := 2, maxLocals := 2, code := jdk_29_method_65_code, exceptionTable := #[], attributes := #[] }
def k3m1 : Method := { name := "max", desc := "(II)I", sig := { parameters := [.int, .int], returnType := some .int }, accessFlags := 9, code := some k3c1 }
/-- java/lang/Math -/
def k3 : Class := { plain "java/lang/Math" (some 0) with
  accessFlags := 49
  interfaces := #[]
  cf := some (fileOf pool3 1 #[.nestMembers #[98]] #[{ accessFlags := 2, nameIndex := 7, descriptorIndex := 8, attributes := #[] }, { accessFlags := 9, nameIndex := 198, descriptorIndex := 335, attributes := #[] }] 49 4 #[] #[{ accessFlags := 25, nameIndex := 354, descriptorIndex := 339, attributes := #[] }, { accessFlags := 25, nameIndex := 358, descriptorIndex := 339, attributes := #[] }, { accessFlags := 25, nameIndex := 361, descriptorIndex := 339, attributes := #[] }, { accessFlags := 26, nameIndex := 364, descriptorIndex := 339, attributes := #[] }, { accessFlags := 26, nameIndex := 365, descriptorIndex := 339, attributes := #[] }, { accessFlags := 26, nameIndex := 172, descriptorIndex := 173, attributes := #[] }, { accessFlags := 26, nameIndex := 176, descriptorIndex := 173, attributes := #[] }, { accessFlags := 8, nameIndex := 344, descriptorIndex := 339, attributes := #[] }, { accessFlags := 8, nameIndex := 338, descriptorIndex := 339, attributes := #[] }, { accessFlags := 4120, nameIndex := 245, descriptorIndex := 246, attributes := #[] }])
  fields := #[{ name := "E", type := .double, accessFlags := 25, slot := 0, constantValue := 0 }, { name := "PI", type := .double, accessFlags := 25, slot := 1, constantValue := 0 }, { name := "TAU", type := .double, accessFlags := 25, slot := 2, constantValue := 0 }, { name := "DEGREES_TO_RADIANS", type := .double, accessFlags := 26, slot := 3, constantValue := 0 }, { name := "RADIANS_TO_DEGREES", type := .double, accessFlags := 26, slot := 4, constantValue := 0 }, { name := "negativeZeroFloatBits", type := .long, accessFlags := 26, slot := 5, constantValue := 0 }, { name := "negativeZeroDoubleBits", type := .long, accessFlags := 26, slot := 6, constantValue := 0 }, { name := "twoToTheDoubleScaleUp", type := .double, accessFlags := 8, slot := 7, constantValue := 0 }, { name := "twoToTheDoubleScaleDown", type := .double, accessFlags := 8, slot := 8, constantValue := 0 }, { name := "$assertionsDisabled", type := .boolean, accessFlags := 4120, slot := 9, constantValue := 0 }]
  methods := #[k3m0, k3m1]
  instanceTypes := #[]
  staticTypes := #[.double, .double, .double, .double, .double, .long, .long, .double, .double, .boolean]
  resolved := Array.replicate 460 none
  statics := none }

def pool4 : Array CpInfo := pool [(1, u "java/lang/Cloneable"), (0, .class_ 1), (0, u "java/lang/Object"), (0, .class_ 3)] 3

/-- java/lang/Cloneable -/
def k4 : Class := { plain "java/lang/Cloneable" (some 0) with
  accessFlags := 1537
  interfaces := #[]
  cf := some (fileOf pool4 2 #[] #[] 1537 4 #[] #[])
  fields := #[]
  methods := #[]
  instanceTypes := #[]
  staticTypes := #[]
  resolved := Array.replicate 8 none
  statics := none }

def pool5 : Array CpInfo := pool [(1, u "java/io/Serializable"), (0, .class_ 1), (0, u "java/lang/Object"), (0, .class_ 3)] 3

/-- java/io/Serializable -/
def k5 : Class := { plain "java/io/Serializable" (some 0) with
  accessFlags := 1537
  interfaces := #[]
  cf := some (fileOf pool5 2 #[] #[] 1537 4 #[] #[])
  fields := #[]
  methods := #[]
  instanceTypes := #[]
  staticTypes := #[]
  resolved := Array.replicate 8 none
  statics := none }

/-- the primitive byte -/
def k6 : Class := { plain "byte" none with kind := .primitive 'B', accessFlags := 0x411 }
/-- [B -/
def k7 : Class := { plain "[B" (some 0) with kind := .array 6 .byte, interfaces := #[4, 5], accessFlags := 1041 }

/-- the primitive double -/
def k8 : Class := { plain "double" none with kind := .primitive 'D', accessFlags := 0x411 }
/-- [D -/
def k9 : Class := { plain "[D" (some 0) with kind := .array 8 .double, interfaces := #[4, 5], accessFlags := 1041 }

/-- the primitive int -/
def k10 : Class := { plain "int" none with kind := .primitive 'I', accessFlags := 0x411 }
/-- [I -/
def k11 : Class := { plain "[I" (some 0) with kind := .array 10 .int, interfaces := #[4, 5], accessFlags := 1041 }

def heap : Heap := #[]
def classes : Array Class := #[k0, k1, k2, k3, k4, k5, k6, k7, k8, k9, k10, k11]
def interned : List (Array UInt16 × Addr) := []
def slotsUsed : Nat := 0
def theMethod : MethodId := ⟨1, 1⟩
def args0 : Array Value := #[.long 5, .int 1, .int 2, .int 3]
def aboutOver (below : List Frame) : State where
  vm := { classes := classes, interned := interned.toArray }
  heap := heap
  slotsUsed := slotsUsed
  threads := #[{ frames := .invoking theMethod args0 :: below }]
def below0 : List Frame := [.native { method := ⟨0, 0⟩, args := #[] }]
def about1 : State := aboutOver below0
def p0 : Program := .bare "" "" ""
def e0 : Env := launch0.env 0 0 0
theorem w_frames : about1.frames = Frame.invoking theMethod args0 :: below0 := rfl
set_option maxRecDepth 65536 in
theorem w_args : argsFit about1.vm theMethod args0 = true := by decide +kernel
set_option maxRecDepth 65536 in
theorem w_heap : heapFits about1 = true := by decide +kernel
set_option maxRecDepth 65536 in
theorem w_runnable : about1.curStatus? = some .runnable := by decide +kernel
set_option maxRecDepth 65536 in
theorem w_alone : about1.alone = true := by decide +kernel
set_option maxRecDepth 65536 in
theorem w_named : about1.methodNamed? x = some theMethod := by decide +kernel
set_option maxRecDepth 65536 in
theorem w_hears : about1.hears theMethod below0 = true := by decide +kernel
set_option maxRecDepth 65536 in
theorem w_ripe : about1.ripe theMethod args0 below0 = true := by decide +kernel
theorem w_running : about1.status = .running := rfl
set_option maxRecDepth 65536 in
theorem w_room : about1.hasRoom e0.platform room_1 = true :=
  launch0.hasRoom_least _ room_1 (by decide +kernel) (by decide +kernel) (by decide +kernel) (by decide +kernel) (by decide +kernel) (by decide +kernel)
theorem allAtoms_all (ts : List Jvm.Cond) (a : Array Jvm.Value) (st : Jvm.State) : (allAtoms ts).before a st = ts.all (fun c => c.before a st) := by
  induction ts with
  | nil => rfl
  | cons c t ih =>
    show (Jvm.Cond.and c (allAtoms t)).before a st = _
    rw [Jvm.Cond.before_and, ih, List.all_cons]
def words1 : List Jvm.Cond := Jvm.Cond.code x code maxLocals ret :: tables_1
/-- a 'code' word, met by the world's own term for the bytes: nothing is compared byte by byte -/
theorem code_word {y : MethodName} {bytes : ByteArray} {mx : Nat} {rt : Option FieldType} {a : Array Value} {s : State} {m : MethodId} {meth : Method} {c : Code} (h1 : s.methodNamed? y = some m) (h2 : s.vm.method? m = some meth) (h3 : meth.code = some c) (h4 : c.code = bytes)
    (h5 : (c.maxLocals == mx && c.exceptionTable.isEmpty && decide (c.maxStack ≤ mostOperands) && decide (meth.sig.returnType = rt) && !meth.locks && decide (parseMethodDescriptor y.desc = some meth.sig)) = true) : (Jvm.Cond.code y bytes mx rt).before a s = true := by
  simp only [Bool.and_eq_true, beq_iff_eq, Bool.not_eq_true', decide_eq_true_eq] at h5
  obtain ⟨⟨⟨⟨⟨g1, g2⟩, g3⟩, g4⟩, g5⟩, g6⟩ := h5
  simp [Cond.before, Cond.holds, Cond.value, h1, h2, h3, h4, g1, g2, g3, g4, g5, g6]
def isCode : Jvm.Cond → Bool
  | .code _ _ _ _ => true
  | _ => false
theorem all_split {L : List Jvm.Cond} {P : Jvm.Cond → Bool} (h1 : L.all (fun c => isCode c || P c) = true) (h2 : ∀ c ∈ L.filter isCode, P c = true) : L.all P = true := by
  refine List.all_eq_true.mpr fun c hc => ?_
  have h := List.all_eq_true.mp h1 c hc
  rcases Bool.eq_false_or_eq_true (isCode c) with hi | hi
  · exact h2 c (List.mem_filter.mpr ⟨hc, hi⟩)
  · simpa [hi] using h
set_option maxRecDepth 65536 in
theorem w_c0 : (Jvm.Cond.code x code maxLocals ret).before args0 about1 = true := code_word (m := ⟨1, 1⟩) (meth := k1m1) (c := k1c1) (by decide +kernel) rfl rfl rfl (by decide +kernel)
set_option maxRecDepth 65536 in
theorem w_c1 : (Jvm.Cond.code ({ cls := "com/example/nearjoin/nearjoin/join/PrefixCutStartPinLaw", name := "bag", desc := "(II)[I" } : Jvm.MethodName) method_3_code (7 : Nat) (Option.some (Jvm.ClassFile.FieldType.array Jvm.ClassFile.FieldType.int))).before args0 about1 = true := code_word (m := ⟨1, 2⟩) (meth := k1m2) (c := k1c2) (by decide +kernel) rfl rfl rfl (by decide +kernel)
set_option maxRecDepth 65536 in
theorem w_c2 : (Jvm.Cond.code ({ cls := "com/example/nearjoin/nearjoin/join/PrefixCut", name := "<init>", desc := "([D)V" } : Jvm.MethodName) prog_47_method_1_code (2 : Nat) (Option.none : Option Jvm.ClassFile.FieldType)).before args0 about1 = true := code_word (m := ⟨2, 0⟩) (meth := k2m0) (c := k2c0) (by decide +kernel) rfl rfl rfl (by decide +kernel)
set_option maxRecDepth 65536 in
theorem w_c3 : (Jvm.Cond.code ({ cls := "java/lang/Object", name := "<init>", desc := "()V" } : Jvm.MethodName) object_method_1_code (1 : Nat) (Option.none : Option Jvm.ClassFile.FieldType)).before args0 about1 = true := code_word (m := ⟨0, 0⟩) (meth := k0m0) (c := k0c0) (by decide +kernel) rfl rfl rfl (by decide +kernel)
set_option maxRecDepth 65536 in
theorem w_c4 : (Jvm.Cond.code ({ cls := "com/example/nearjoin/nearjoin/join/PrefixCut", name := "start", desc := "([ID)I" } : Jvm.MethodName) prog_47_method_2_code (7 : Nat) (Option.some Jvm.ClassFile.FieldType.int)).before args0 about1 = true := code_word (m := ⟨2, 1⟩) (meth := k2m1) (c := k2c1) (by decide +kernel) rfl rfl rfl (by decide +kernel)
set_option maxRecDepth 65536 in
theorem w_c5 : (Jvm.Cond.code ({ cls := "com/example/nearjoin/nearjoin/join/PrefixCutStartPinLaw", name := "expect", desc := "([D[ID)I" } : Jvm.MethodName) method_4_code (22 : Nat) (Option.some Jvm.ClassFile.FieldType.int)).before args0 about1 = true := code_word (m := ⟨1, 3⟩) (meth := k1m3) (c := k1c3) (by decide +kernel) rfl rfl rfl (by decide +kernel)
set_option maxRecDepth 65536 in
theorem w_c6 : (Jvm.Cond.code ({ cls := "java/lang/Math", name := "max", desc := "(II)I" } : Jvm.MethodName) jdk_29_method_65_code (2 : Nat) (Option.some Jvm.ClassFile.FieldType.int)).before args0 about1 = true := code_word (m := ⟨3, 1⟩) (meth := k3m1) (c := k3c1) (by decide +kernel) rfl rfl rfl (by decide +kernel)
def codes1 : List Jvm.Cond := [Jvm.Cond.code x code maxLocals ret, Jvm.Cond.code ({ cls := "com/example/nearjoin/nearjoin/join/PrefixCutStartPinLaw", name := "bag", desc := "(II)[I" } : Jvm.MethodName) method_3_code (7 : Nat) (Option.some (Jvm.ClassFile.FieldType.array Jvm.ClassFile.FieldType.int)), Jvm.Cond.code ({ cls := "com/example/nearjoin/nearjoin/join/PrefixCut", name := "<init>", desc := "([D)V" } : Jvm.MethodName) prog_47_method_1_code (2 : Nat) (Option.none : Option Jvm.ClassFile.FieldType), Jvm.Cond.code ({ cls := "java/lang/Object", name := "<init>", desc := "()V" } : Jvm.MethodName) object_method_1_code (1 : Nat) (Option.none : Option Jvm.ClassFile.FieldType), Jvm.Cond.code ({ cls := "com/example/nearjoin/nearjoin/join/PrefixCut", name := "start", desc := "([ID)I" } : Jvm.MethodName) prog_47_method_2_code (7 : Nat) (Option.some Jvm.ClassFile.FieldType.int), Jvm.Cond.code ({ cls := "com/example/nearjoin/nearjoin/join/PrefixCutStartPinLaw", name := "expect", desc := "([D[ID)I" } : Jvm.MethodName) method_4_code (22 : Nat) (Option.some Jvm.ClassFile.FieldType.int), Jvm.Cond.code ({ cls := "java/lang/Math", name := "max", desc := "(II)I" } : Jvm.MethodName) jdk_29_method_65_code (2 : Nat) (Option.some Jvm.ClassFile.FieldType.int)]
set_option maxRecDepth 65536 in
theorem codes_eq : words1.filter isCode = codes1 := rfl
theorem w_codes : ∀ c ∈ words1.filter isCode, c.before args0 about1 = true := by
  rw [codes_eq]
  intro c hc
  simp only [codes1, List.mem_cons, List.not_mem_nil, or_false] at hc
  rcases hc with rfl | rfl | rfl | rfl | rfl | rfl | rfl
  · exact w_c0
  · exact w_c1
  · exact w_c2
  · exact w_c3
  · exact w_c4
  · exact w_c5
  · exact w_c6
set_option maxRecDepth 65536 in
theorem w_t1 : (words1.take 24).all (fun c => isCode c || c.before args0 about1) = true := by decide +kernel
set_option maxRecDepth 65536 in
theorem w_t2 : ((words1.drop 24).take 24).all (fun c => isCode c || c.before args0 about1) = true := by decide +kernel
set_option maxRecDepth 65536 in
theorem w_t3 : ((words1.drop 24).drop 24).all (fun c => isCode c || c.before args0 about1) = true := by decide +kernel
theorem w_tables : (allAtoms (Jvm.Cond.code x code maxLocals ret :: tables_1)).before args0 about1 = true := by
  rw [allAtoms_all]
  show words1.all (fun c => c.before args0 about1) = true
  refine all_split ?_ w_codes
  rw [← List.take_append_drop 24 words1, List.all_append, w_t1, ← List.take_append_drop 24 (words1.drop 24), List.all_append, w_t2, w_t3]
  rfl
set_option maxRecDepth 65536 in
theorem w_case : (Jvm.Cond.and given_1 narrow_1).before args0 about1 = true := by decide +kernel
theorem w_applies : (headSpec (Jvm.Cond.code x code maxLocals ret :: tables_1) room_1).applies x e0.platform about1 = true :=
  (Spec.applies_iff w_frames).mpr ⟨w_running, w_runnable, w_alone, w_named, w_hears, w_ripe, w_room, w_tables⟩
theorem atStart : AtStart classFile x code maxLocals ret World_1 tables_1 room_1 Calls_1 rest_1 Pre_1 launch0 p0 e0 about1 theMethod args0 below0 :=
  ⟨lists_1, trivial, launch0.admits_env _ _ _, launch0.least_env, fairChoices_fair.cas, fairChoices_fair.clock, w_frames, w_args, w_heap, w_applies, trivial, trivial, w_case⟩
end start1
theorem witness_1 : WitnessClaimed_1 := ⟨start1.p0, start1.e0, start1.about1, start1.theMethod, start1.args0, start1.below0, start1.atStart⟩
end Jvm.Pilot.@@N@@
