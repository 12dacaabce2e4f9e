import PyProof.Rows.All
import Wide.All
import OpenK.AllK
import Wide.FinOn
import PySem.Challenge.RW_wy0045_01
set_option Elab.async false
set_option rowWalk.seconds 0
set_option compiler.extract_closed false
section -- HD
open PySem PySem.W PyProof.Rows
set_option maxRecDepth 100000
namespace Mine
/-- the text's statements that stand, the others left out -/
noncomputable def view : Program := { PySem.Challenge.pw_wy0045_01 with main := { PySem.Challenge.pw_wy0045_01.main with body := [0, 1, 3, 4, 5, 8, 9, 10, 11, 12, 14, 15, 17, 18, 19, 21, 23, 24, 25, 26, 27].filterMap fun i => PySem.Challenge.pw_wy0045_01.main.body[i]? } }
/-- the head, but for what the text's own objects are -/
theorem head_mine (H : Hook) {d : DefRec} {kwd : List (Str × Expr)} (hl : LeftO PySem.Challenge.rw_wy0045_01.row.prog view [PySem.Str.ofString "compute_powers", PySem.Str.ofString "tspecials", PySem.Str.ofString "_name_disallowed_re", PySem.Str.ofString "_value_disallowed_re", PySem.Str.ofString "_formatparam"] (fun s => xlAt view [] s && recOk (RowW.records (OpenRow.toRowW PySem.Challenge.rw_wy0045_01.row)) s) H.obs H.val 3686)
    (hdef : defOf view PySem.Challenge.rw_wy0045_01.row.name = some (d, kwd)) (hp : PySem.Challenge.rw_wy0045_01.row.prog.theDef PySem.Challenge.rw_wy0045_01.row.name = some (d.params, d.body, d.scope)) (hk : kwWritten? d.params.kwonlyargs d.params.kw_defaults = some kwd) (k1 : PySem.Challenge.rw_wy0045_01.row.wellSaid = true)
    (hw : PySem.Challenge.rw_wy0045_01.row.toRowW.promised)
    (hc : WalkO view [PySem.Str.ofString "compute_powers", PySem.Str.ofString "tspecials", PySem.Str.ofString "_name_disallowed_re", PySem.Str.ofString "_value_disallowed_re", PySem.Str.ofString "_formatparam"] (XL view []) H.says PySem.Challenge.rw_wy0045_01.row.toRowW d kwd fun f vs => PySem.call f vs) : PySem.Challenge.rw_wy0045_01.row.Holds :=
  PySem.W.holds_open hl H.of H.keeps (fun s e => xl_of s (Bool.and_eq_true_iff.mp e).1) XL.keeps hdef hp hk (fun s e => recFacts_of (Bool.and_eq_true_iff.mp e).2) (by rfl) k1 (by decide +kernel) ⟨rfl, rfl, rfl, rfl, rfl, by decide +kernel⟩ hw hc
local macro_rules | `(tactic| o_law) => `(tactic| refine holds_law (by decide +kernel) fun said => ?_)
local macro_rules | `(tactic| o_head $H) => `(tactic| ((refine head_mine $H ?hl rfl rfl rfl (by assumption) ?hw ?hc); (case hl => (intro w; kernel_rfl))))
set_option maxHeartbeats 8000000 in
open_top hd for PySem.Challenge.rw_wy0045_01
end Mine

end
section -- P0
namespace Mine
theorem lt5 {P : Nat → Prop} (h0 : P 0) (h1 : P 1) (h2 : P 2) (h3 : P 3) (h4 : P 4) (k : Nat) (hk : k < 5) : P k := by
  have : k = 0 ∨ k = 1 ∨ k = 2 ∨ k = 3 ∨ k = 4 := by lia
  rcases this with rfl | rfl | rfl | rfl | rfl <;> assumption
end Mine

end
section -- P1
open PySem PySem.W PyProof.Rows
set_option maxRecDepth 100000
namespace Mine
open PySem.Builtin.Int (intBits)
noncomputable def Hold (P : Prop) : Prop := P
theorem Hold.mk {P : Prop} (h : P) : Hold P := h
theorem Hold.out {P : Prop} (h : Hold P) : P := h

theorem and_low : ∀ (k : Nat) (x y : Int), 0 ≤ y → y < 2 ^ k → Builtin.bitAnd (x * 2 ^ k) y = 0
  | 0, x, y, h0, h1 => by
    have : y = 0 := by simp at h1; lia  
    subst this
    rw [bitAnd_comm]; exact Builtin_and_zero _
  | k + 1, x, y, h0, h1 => by
    rw [kbt_halves]
    have e1 : x * 2 ^ (k + 1) = 2 * (x * 2 ^ k) := by rw [Int.pow_succ]; ac_rfl
    have h2 : y / 2 < 2 ^ k := by rw [Int.pow_succ] at h1; lia  
    have e2 : x * 2 ^ (k + 1) / 2 = x * 2 ^ k := by rw [e1]; omega
    have e3 : ¬ (x * 2 ^ (k + 1) % 2 = 1 ∧ y % 2 = 1) := by rw [e1]; lia  
    rw [e2, and_low k x (y / 2) (by lia  ) h2, if_neg e3]; rfl
where
  Builtin_and_zero (x : Int) : Builtin.bitAnd 0 x = 0 := by
    have := bitAnd_range x (y := 0) (by decide)
    rw [bitAnd_comm]; lia  

theorem or_low {k : Nat} {x y : Int} (h0 : 0 ≤ y) (h1 : y < 2 ^ k) : Builtin.bitOr (x * 2 ^ k) y = x * 2 ^ k + y := by
  rw [bitOr_and, and_low k x y h0 h1]; lia  

theorem bits_of_lt {x : Int} {k : Nat} (h0 : 0 ≤ x) (h : x < 2 ^ k) : intBits x ≤ k := by
  refine intBits_le_iff.mpr ?_
  have e : ((2 ^ k : Nat) : Int) = (2 : Int) ^ k := kbt_cast k
  lia  
theorem lt_of_bits {x : Int} {k : Nat} (h : intBits x ≤ k) : x < 2 ^ k := by
  have := intBits_le_iff.mp h
  have e : ((2 ^ k : Nat) : Int) = (2 : Int) ^ k := kbt_cast k
  lia  
theorem log2_lt_of {x : Int} {k : Nat} (hk : 0 < k) (h : intBits x ≤ k) : x.natAbs.log2 < k := by
  by_cases h0 : x.natAbs = 0
  · rw [h0]; simpa using hk
  · exact (Nat.log2_lt h0).mpr (intBits_le_iff.mp h)
theorem ge_of_bits {x : Int} {k : Nat} (h0 : 0 < x) (h : intBits x = k + 1) : 2 ^ k ≤ x := by
  have e : ((2 ^ k : Nat) : Int) = (2 : Int) ^ k := kbt_cast k
  have h' : ¬ (intBits x ≤ k) := by lia  
  rw [intBits_le_iff] at h'
  lia  

theorem mod_bits {x y : Int} {k : Nat} (hy : 0 < y) (h : intBits y ≤ k) : intBits (x % y) ≤ k :=
  bits_of_lt (Int.emod_nonneg _ (by lia  )) (Int.lt_trans (Int.emod_lt_of_pos _ hy) (lt_of_bits h))
theorem div_bits {x y : Int} {k : Nat} (hx : 0 ≤ x) (hy : 0 < y) (h : intBits x ≤ k) : intBits (x / y) ≤ k :=
  bits_of_lt (Int.ediv_nonneg hx (by lia  )) (Int.lt_of_le_of_lt (Int.ediv_le_self _ hx) (lt_of_bits h))

/-- the first branch of three halves by two -/
theorem d3_first {a12 a3 b b1 b2 P : Int} (hP : 0 < P) (hb : b = b1 * P + b2) (_h2 : 0 ≤ b2) (h1 : 0 < b1) (ha : a12 < b) (h3 : a3 < P) (he : a12 / P = b1) :
    0 ≤ a12 - b1 * P + b1 ∧ (P - 1) * b1 + (a12 - b1 * P + b1) = a12 ∧ (a12 - b1 * P + b1) * P + a3 - (P - 1) * b2 < b := by
  have m0 := Int.emod_nonneg a12 (show P ≠ 0 by lia  )
  have m1 := Int.mul_ediv_add_emod a12 P
  rw [he, Int.mul_comm] at m1
  have m2 : a12 - b1 * P = a12 % P := by lia  
  have e1 : (P - 1) * b1 = b1 * P - b1 := by rw [Int.sub_mul, Int.one_mul, Int.mul_comm]
  have e2 : (P - 1) * b2 = b2 * P - b2 := by rw [Int.sub_mul, Int.one_mul, Int.mul_comm]
  refine ⟨by lia  , by rw [e1]; lia  , ?_⟩
  rw [e2, hb]
  have l1 : a12 - b1 * P + 1 ≤ b2 := by lia  
  have l2 : (a12 - b1 * P + b1) * P ≤ (b2 - 1 + b1) * P := Int.mul_le_mul_of_nonneg_right (by lia  ) (by lia  )
  have e3 : (b2 - 1 + b1) * P = b2 * P - P + b1 * P := by rw [Int.add_mul, Int.sub_mul, Int.one_mul]
  lia  
theorem d3_second {a12 a3 b b1 b2 P : Int} (hP : 0 < P) (hb : b = b1 * P + b2) (h2 : 0 ≤ b2) (h1 : 0 < b1) (ha0 : 0 ≤ a12) (h3 : a3 < P) :
    0 ≤ a12 % b1 ∧ a12 / b1 * b1 + a12 % b1 = a12 ∧ a12 % b1 * P + a3 - a12 / b1 * b2 < b := by
  have m0 := Int.emod_nonneg a12 (show b1 ≠ 0 by lia  )
  have m1 := Int.mul_ediv_add_emod a12 b1
  have m2 := Int.emod_lt_of_pos a12 h1
  have q0 : 0 ≤ a12 / b1 := Int.ediv_nonneg ha0 (by lia  )
  refine ⟨m0, by rw [Int.mul_comm]; exact m1, ?_⟩
  have l1 : (a12 % b1 + 1) * P ≤ b1 * P := Int.mul_le_mul_of_nonneg_right (by lia  ) (by lia  )
  have l2 : 0 ≤ a12 / b1 * b2 := Int.mul_nonneg q0 h2
  have e3 : (a12 % b1 + 1) * P = a12 % b1 * P + P := by rw [Int.add_mul, Int.one_mul]
  lia  
theorem d3_sum {a12 a3 b b1 b2 P q r : Int} (hb : b = b1 * P + b2) (h : q * b1 + r = a12) : q * b + (r * P + a3 - q * b2) = a12 * P + a3 := by
  subst hb
  rw [← h, Int.mul_add, Int.add_mul, Int.mul_assoc]; lia  
theorem qr_of {x b q r : Int} (h : q * b + r = x) (h0 : 0 ≤ r) (h1 : r < b) : q = x / b ∧ r = x % b := by
  have := (Int.ediv_emod_unique (a := x) (b := b) (q := q) (r := r) (by lia  )).mpr ⟨by rw [Int.mul_comm b q]; lia  , h0, h1⟩
  exact ⟨this.1.symm, this.2.symm⟩
end Mine
namespace Mine
theorem wp_split {M : Model} {Γ : Ctx} {env : Env} {Q E : _ → Pos → Shared → Prop} (R : Shared → Prop) : ∀ (k : Nat) (l : List Stmt) (p : Pos) (s : Shared),
    Sem.wp M Γ (execs (l.take k) env) (fun f _ s' => Hold (f = .next ∧ R s')) E p s → (∀ p' s', R s' → Sem.wp M Γ (execs (l.drop k) env) Q E p' s') → Sem.wp M Γ (execs l env) Q E p s
  | 0, l, p, s, h1, h2 => h2 p s h1.out.2
  | k + 1, [], p, s, h1, h2 => h2 p s h1.out.2
  | k + 1, st :: l, p, s, h1, h2 => by
    have h1' : Sem.wp M Γ (execs (st :: l.take k) env) (fun f _ s' => Hold (f = .next ∧ R s')) E p s := h1
    rw [execs_cons, Sem.wp_bind'] at h1' ⊢
    refine Sem.wp_mono M Γ _ (fun f p' s' h => ?_) (fun _ _ _ h' => h') _ _ h1'
    cases f with
    | next => exact wp_split R k l p' s' h h2
    | brk => exact absurd h.out.1 (by intro e; cases e)
    | cont => exact absurd h.out.1 (by intro e; cases e)
    | ret v => exact absurd h.out.1 (by intro e; cases e)
theorem rmN {a b c k : Nat} (h : a + b < c) (hk : Nat.ble k b = true) : a + k < c := Nat.lt_of_le_of_lt (Nat.add_le_add_left (Nat.le_of_ble_eq_true hk) a) h
theorem opq {α : Type} {M : Model} {A : Around} {t : Sem α} {E : Value → Shared → Prop} {Q : α → Shared → Prop} {s : Shared} (h : ∀ (Q' : α → Shared → Prop) (E' : Value → Shared → Prop), (∀ v s', Q v s' → Q' v s') → wpAny M A t Q' E' s) : wpAny M A t Q E s := h Q E fun _ _ h => h
theorem opqQ {α : Type} {M : Model} {A : Around} {t : Sem α} {E : Value → Shared → Prop} {Q : α → Shared → Prop} {s : Shared} (h : ∀ Q' : α → Shared → Prop, (∀ v s', Q v s' → Q' v s') → wpAny M A t Q' E s) : wpAny M A t Q E s := h Q fun _ _ h => h
theorem exec_split {M : Model} {A : Around} {E : Value → Shared → Prop} {env : Env} {Q : Flow → Shared → Prop} {s : Shared} {l : List Stmt} (k : Nat) (R : Shared → Prop)
    (h1 : wpAny M A (execs (l.take k) env) (fun f s' => Hold (f = .next ∧ R s')) E s) (h2 : ∀ s', R s' → wpAny M A (execs (l.drop k) env) Q E s') : wpAny M A (execs l env) Q E s :=
  fun Γ p hΓ => wp_split R k l p s (h1 Γ p hΓ) fun p' s' r => h2 s' r Γ p' hΓ
end Mine
namespace Mine
open PySem.Builtin.Int (intBits)
theorem d1_split {A B P : Int} (hP : 0 < P) (hB : 0 < B) :
    A / P / B * P + ((A / P) % B * P + A % P) / B = A / B ∧ ((A / P) % B * P + A % P) % B = A % B ∧ 0 ≤ ((A / P) % B * P + A % P) / B ∧ ((A / P) % B * P + A % P) / B < P := by
  have a1 := Int.mul_ediv_add_emod A P
  have a2 := Int.emod_nonneg A (show P ≠ 0 by lia  )
  have a3 := Int.emod_lt_of_pos A hP
  have b1 := Int.mul_ediv_add_emod (A / P) B
  have b2 := Int.emod_nonneg (A / P) (show B ≠ 0 by lia  )
  have b3 := Int.emod_lt_of_pos (A / P) hB
  generalize A / P = D at *
  generalize A % P = a4 at *
  generalize D / B = q1 at *
  generalize D % B = r1 at *
  have c0 : 0 ≤ r1 * P := Int.mul_nonneg b2 (by lia  )
  have c1 : (r1 + 1) * P ≤ B * P := Int.mul_le_mul_of_nonneg_right (by lia  ) (by lia  )
  rw [Int.add_mul, Int.one_mul] at c1
  have d1 := Int.mul_ediv_add_emod (r1 * P + a4) B
  have d2 := Int.emod_nonneg (r1 * P + a4) (show B ≠ 0 by lia  )
  have d3 := Int.emod_lt_of_pos (r1 * P + a4) hB
  have d4 : 0 ≤ (r1 * P + a4) / B := Int.ediv_nonneg (by lia  ) (by lia  )
  have d5 : (r1 * P + a4) / B < P := Int.ediv_lt_of_lt_mul hB (by rw [Int.mul_comm P B]; lia  )
  generalize (r1 * P + a4) / B = q2 at *
  generalize (r1 * P + a4) % B = r2 at *
  have e : (q1 * P + q2) * B + r2 = A := by
    rw [← a1, ← b1, Int.mul_add P, Int.add_mul, Int.mul_comm P r1]
    have : q1 * P * B = P * (B * q1) := by ac_rfl
    have : q2 * B = B * q2 := Int.mul_comm _ _
    lia  
  obtain ⟨f1, f2⟩ := qr_of e d2 d3
  exact ⟨f1, f2, d4, d5⟩
theorem two_pow_mul (h k : Nat) : (2 : Int) ^ (h + k) = 2 ^ h * 2 ^ k := Int.pow_add ..
theorem div_two {A : Int} (h : Nat) : A / 2 ^ (h + h) = A / 2 ^ h / 2 ^ h := by
  rw [two_pow_mul, Int.ediv_ediv_of_nonneg (Int.le_of_lt (kbt_pos h))]
theorem div_pow_bits {A : Int} {a n b : Nat} (h0 : 0 ≤ A) (h : intBits A ≤ a) (hb : a ≤ b + n) : intBits (A / 2 ^ n) ≤ b := by
  have h1 := lt_of_bits h
  refine bits_of_lt (Int.ediv_nonneg h0 (Int.le_of_lt (kbt_pos n))) (Int.ediv_lt_of_lt_mul (kbt_pos n) ?_)
  rw [← two_pow_mul]
  refine Int.lt_of_lt_of_le h1 ?_
  rw [← kbt_cast a, ← kbt_cast (b + n)]
  exact Int.ofNat_le.mpr (Nat.pow_le_pow_right (by decide) hb)
theorem bits_twice {y : Int} {n : Nat} (h0 : 0 < y) (h : intBits y = n) : intBits (y * 2) = n + 1 := by
  have h1 : intBits (y * 2) ≤ n + 1 := by
    have := intBits_mul_le (x := y) (y := 2) (m := n) (n := 2) (Nat.le_of_eq h) (by decide)
    refine bits_of_lt (by lia  ) ?_
    have := lt_of_bits (Nat.le_of_eq h)
    rw [Int.pow_succ]; lia  
  have h2 : ¬ intBits (y * 2) ≤ n := by
    intro h3
    have h4 := lt_of_bits h3
    cases n with
    | zero => simp at h4; lia  
    | succ k =>
      have := ge_of_bits h0 h
      rw [Int.pow_succ] at h4; lia  
  lia  
structure D1J (x y A B : Int) (h : Nat) (pad : Int) : Prop where
  a0 : 0 ≤ A
  b0 : 0 < B
  ab : A < B * 2 ^ (h + h)
  bb : intBits B = h + h
  ba : intBits A ≤ h + h + h + 4000
  h1 : 10 ≤ h
  h2 : h ≤ 3500
  q : A / B = x / y
  r : (pad = 0 ∧ A % B = x % y) ∨ (pad = 1 ∧ A % B = 2 * (x % y))
theorem d1_even {x y n : Int} (hx : 0 ≤ x) (hy : 0 < y) (hn : n = intBits y) (hn1 : 20 ≤ n) (hn2 : n ≤ 6999) (hxy : x < y * 2 ^ n.toNat) (hx2 : (intBits x : Int) ≤ n + n / 2 + 4000) (he : n % 2 = 0) :
    n = ((n.toNat / 2 + n.toNat / 2 : Nat) : Int) ∧ D1J x y x y (n.toNat / 2) 0 := by
  have e : n.toNat = n.toNat / 2 + n.toNat / 2 := by lia  
  refine ⟨by lia  , hx, hy, by rw [← e]; exact hxy, by lia  , by lia  , by lia  , by lia  , rfl, .inl ⟨rfl, rfl⟩⟩
theorem d1_odd {x y n : Int} (hx : 0 ≤ x) (hy : 0 < y) (hn : n = intBits y) (hn1 : 20 ≤ n) (hn2 : n ≤ 6999) (hxy : x < y * 2 ^ n.toNat) (hx2 : (intBits x : Int) ≤ n + n / 2 + 4000) (he : n % 2 = 1) :
    n + 1 = (((n.toNat + 1) / 2 + (n.toNat + 1) / 2 : Nat) : Int) ∧ D1J x y (x * 2) (y * 2) ((n.toNat + 1) / 2) 1 := by
  have e : n.toNat + 1 = (n.toNat + 1) / 2 + (n.toNat + 1) / 2 := by lia  
  refine ⟨by lia  , by lia  , by lia  , ?_, ?_, ?_, by lia  , by lia  , Int.mul_ediv_mul_of_pos_left _ _ (by decide), .inr ⟨rfl, ?_⟩⟩
  · rw [← e, Int.pow_succ]
    have hp := kbt_pos n.toNat
    have : y * 2 * (2 ^ n.toNat * 2) = 4 * (y * 2 ^ n.toNat) := by
      rw [show (4 : Int) = 2 * 2 by decide]; ac_rfl
    have : 0 < y * 2 ^ n.toNat := Int.mul_pos hy hp
    lia  
  · rw [bits_twice hy rfl]; lia  
  · have := intBits_add_le (x := x) (y := x) (Nat.le_refl _) (Nat.le_refl _)
    rw [show x * 2 = x + x by lia  ]
    simp at this
    lia  
  · rw [Int.mul_comm x, Int.mul_comm y, Int.mul_emod_mul_of_pos _ _ (by decide)]
end Mine
namespace Mine
noncomputable def IntAt (m : Str → Option Value) (x : Str) (v : Int) : Prop := ∃ t, m x = some (.int v t)
theorem IntAt.of {m : Str → Option Value} {x : Str} {v v' : Int} {t : Tok} (h : m x = some (.int v t)) (e : v = v') : IntAt m x v' := ⟨t, e ▸ h⟩
end Mine
namespace Mine
theorem shr_eq (A : Int) (h : Nat) : A.fdiv (2 ^ ((h : Nat) : Int).toNat) = A / 2 ^ h := by
  rw [Int.toNat_natCast, Int.fdiv_eq_ediv_of_nonneg _ (Int.le_of_lt (kbt_pos _))]
theorem pow_toNat (h : Nat) : (2 : Int) ^ ((h : Nat) : Int).toNat = 2 ^ h := by rw [Int.toNat_natCast]
end Mine

end
section -- what the walks from here on share
open Mine PySem PySem.W PyProof.Rows
namespace Mine
theorem ldX {M : Model} {A : Around} {E : Value → Shared → Prop} {s : Shared} {h₀ : Heap} {L a : Addr} {m : Str → Option Value} {cn : Str} {cs : Scope} {ccd : Value} {cl : List (Str × Addr)} {x : Str} {v : Value} {Q : Value → Shared → Prop} (F : Fr h₀ L s.heap m) (hv : m x = some v) (h : Q v s)
    (hk : cs.kind = .function := by rfl) (hx : (envX cn cs L a ccd cl).kindOf x = some .local := by rfl) : wpAny M A (loadName (envX cn cs L a ccd cl) x) Q E s := wpAny_loadName_local hk hx F.ns hv h
end Mine
local macro_rules | `(tactic| walk_at "eval Name") => `(tactic| (k_here; k_dflt (refine nameX_L (by with_reducible assumption) (by repeat (first | with_reducible assumption | with_reducible exact if_pos rfl | refine Eq.trans (if_neg (by decide)) ?_)) ?_)))
local macro_rules | `(tactic| walk_at "loadName") => `(tactic| (k_here; k_dflt (refine ldX (by with_reducible assumption) (by repeat (first | with_reducible assumption | with_reducible exact if_pos rfl | refine Eq.trans (if_neg (by decide)) ?_)) ?_)))
section -- W4
theorem Mine.off_W4 : True := by w_top off; trivial
open PySem PySem.W PyProof.Rows
set_option maxRecDepth 100000
namespace Mine
noncomputable abbrev tupO (vs : List Value) : Obj := { cls := .type "tuple", data := .seq vs.toArray }
noncomputable abbrev lstO (vs : List Value) (ep : Nat) : Obj := { cls := .type "list", data := .seq vs.toArray ep }
variable {w : World} {p : Program} {loose : List Str} {mean : ExcName → Option Value} {mg mb : Str → Option Value} {dp un : Nat} {gd : Option (List Code)} {cn : Str} {cs : Scope} {a : Addr} {ccd : Value} {cl : List (Str × Addr)} {outer : List Env} {A₀ : Around} {base h₀ : Heap} {L : Addr} {m : Str → Option Value} {news : List (Addr × Obj)} {s : Shared} {Q E : Value → Shared → Prop}
theorem exec_join {M : Model} {A : Around} {E : Value → Shared → Prop} {s : Shared} {env : Env} {st : Stmt} {rest : List Stmt} {Q : Flow → Shared → Prop} (R : Shared → Prop)
    (h1 : wpAny M A (exec st env) (fun f s' => Hold (f = .next ∧ R s')) E s) (h2 : ∀ s', R s' → wpAny M A (execs rest env) Q E s') : wpAny M A (execs (st :: rest) env) Q E s :=
  wpAny_execs_cons (wpAny_mono h1 (fun f s' h => by obtain ⟨e, k⟩ := h.out; subst e; exact h2 s' k) fun _ _ e => e)
theorem lsh_ok {x n : Int} (h1 : Builtin.Int.intBits x ≤ 30000) (h2 : n ≤ 30000) : (Builtin.Int.intBits x : Int) + n ≤ 2 ^ 27 := by
  have : (2 : Int) ^ 27 = 134217728 := by decide
  lia  
open PySem.Builtin.Int (intBits)
set_option maxHeartbeats 8000000 in
theorem div0_c (B : Below A₀ base outer h₀) (F : Fr h₀ L s.heap m) (X : (hd.heap_1 w.params).In h₀) (N : News h₀ L s.heap news) (T : Top p loose mean mg mb h₀) (hk : cs.kind = .function) (hd : dp + 5 < recursionLimit) (hu : un + 40 < cLine)
  {x y n : Int} {t1 t2 t3 : Tok} (hb : 0 < y) (hy : intBits y ≤ 8999) (hn : (intBits x : Int) - n ≤ 4000)
  (ret : ∀ r t t' h' tk', Fr h₀ L h' m → News h₀ L h' ((r, tupO [.int (x / y) t, .int (x % y) t']) :: news) → (∀ p ∈ news, p.1 < r) → Q (.ref r) {s with heap := h', toks := tk'}) :
  wpAny (model PySem.Challenge.rw_wy0045_01.row.prog w) (ktrTop dp un gd cn cs L a ccd cl outer) (call (.ref 109) [.int x t1, .int y t2, .int n t3]) Q E s := by
  refine wpAny_call ?_
  k_dflt ktr_enter
  k_steps
  refine divmod_N (by assumption) (by assumption) (by lia  ) ?_ (Or.inl (PyProof.noPylong_of_log2 (Nat.lt_succ_of_lt (log2_lt_of (by decide) hy))))
  rw [Int.fdiv_eq_ediv_of_nonneg _ (Int.le_of_lt hb), Int.fmod_eq_emod_of_nonneg _ (Int.le_of_lt hb)]
  intro h' F' N'
  rename News _ _ _ news => Nx
  k_steps
  exact ret _ _ _ _ _ (by assumption) (by assumption) (fun p hp => Heap.lt_size (Nx p hp).1)


set_option maxHeartbeats 8000000 in
theorem div3_c (B : Below A₀ base outer h₀) (F : Fr h₀ L s.heap m) (X : (hd.heap_1 w.params).In h₀) (N : News h₀ L s.heap news) (T : Top p loose mean mg mb h₀) (hk : cs.kind = .function) (hd : dp + 15 < recursionLimit) (hu : un + 80 < cLine)
  {a12 a3 b b1 b2 n : Int} {t1 t2 t3 t4 t5 t6 : Tok} (hn : 0 ≤ n) (hn' : n ≤ 20000) (hb : b = b1 * 2 ^ n.toNat + b2) (h20 : 0 ≤ b2) (h2 : b2 < 2 ^ n.toNat) (h1 : 0 < b1) (hb1 : intBits b1 ≤ 8999) (ha0 : 0 ≤ a12) (ha : a12 < b) (hab : intBits a12 ≤ 20000) (h30 : 0 ≤ a3) (h3 : a3 < 2 ^ n.toNat) (hbt : (intBits a12 : Int) - n ≤ 4000)
  (ret : ∀ r t t' h' tk', Fr h₀ L h' m → News h₀ L h' ((r, tupO [.int ((a12 * 2 ^ n.toNat + a3) / b) t, .int ((a12 * 2 ^ n.toNat + a3) % b) t']) :: news) → (∀ p ∈ news, p.1 < r) → Q (.ref r) {s with heap := h', toks := tk'}) :
  wpAny (model PySem.Challenge.rw_wy0045_01.row.prog w) (ktrTop dp un gd cn cs L a ccd cl outer) (call (.ref 116) [.int a12 t1, .int a3 t2, .int b t3, .int b1 t4, .int b2 t5, .int n t6]) Q E s := by
  have i1 : intBits 1 ≤ 30000 := by decide
  have i2 : intBits b1 ≤ 30000 := by lia  
  have i3 : n ≤ 30000 := by lia  
  have hP : (0 : Int) < 2 ^ n.toNat := kbt_pos _
  have hbp : 0 < b := by have := Int.mul_pos h1 hP; lia  
  have nP : intBits (2 ^ n.toNat - 1) ≤ 20000 := Nat.le_trans (bits_of_lt (k := n.toNat) (by lia  ) (by lia  )) (by lia  )
  have nb2 : intBits b2 ≤ 20000 := Nat.le_trans (bits_of_lt h20 h2) (by lia  )
  refine wpAny_call ?_
  k_dflt ktr_enter
  rename_i g' L' h1' FG' F' N' B' X' T'
  refine exec_join (fun s' => ∀ PP : Prop, (∀ h' tk m' q r tq tr, (s' = { s with heap := h', toks := tk }) → (Fr g' L' h' m') → (News g' L' h' news) → (m' (Str.ofString "q") = some (.int q tq)) → (m' (Str.ofString "r") = some (.int r tr)) → (m' (Str.ofString "b") = some (.int b t3)) → (m' (Str.ofString "b2") = some (.int b2 t5)) → (m' (Str.ofString "n") = some (.int n t6)) → (m' (Str.ofString "a3") = some (.int a3 t2)) → (0 ≤ r) → (q * b1 + r = a12) → (r * 2 ^ n.toNat + a3 - q * b2 < b) → (intBits r ≤ 30000) → (IntMulOk q b2) → PP) → PP) ?_ ?_
  · refine opq ?_
    intro QQ EE hQQ
    repeat' (first | ((with_reducible show wpAny _ _ (binaryOp Operator.LShift (Value.int _ _) (Value.int _ _)) _ _ _); (k_here; (with_reducible refine lshift_int (by assumption) (lsh_ok (by assumption) (by assumption)) ?_))) | (k_unfold; (try dsimp only)) | (k_end; kc_close) | walk1 | (dsimp only; first | ((with_reducible show wpAny _ _ (binaryOp Operator.LShift (Value.int _ _) (Value.int _ _)) _ _ _); (k_here; (with_reducible refine lshift_int (by assumption) (lsh_ok (by assumption) (by assumption)) ?_))) | walk1) | (leave1; (try dsimp only)))
    · rename Fr _ _ _ _ => F3
      rename News _ _ _ _ => N3
      rename _ = b1 => e
      rw [Int.fdiv_eq_ediv_of_nonneg _ (Int.le_of_lt hP)] at e
      have z := d3_first hP hb h20 h1 ha h3 e
      have y1 : intBits (a12 - b1 * 2 ^ n.toNat + b1) ≤ 30000 := by
        refine Nat.le_trans (intBits_add_le (intBits_sub_le hab (intBits_mul_le hb1 (m := 8999) (n := 20001) ?_)) hb1) (by decide)
        exact Nat.le_trans (bits_of_lt (k := n.toNat + 1) (by lia  ) (by rw [Int.pow_succ]; lia  )) (by lia  )
      refine hQQ _ _ ?_
      refine Hold.mk ⟨rfl, fun PP kk => kk _ _ _ _ _ _ _ rfl F3 (fun p hp => N3 p (.tail _ hp)) rfl rfl rfl rfl rfl rfl z.1 ?_ ?_ y1 ?_⟩
      · rw [Int.one_mul]; exact z.2.1
      · rw [Int.one_mul]; exact z.2.2
      · rw [Int.one_mul]; exact IntMulOk.of_le nP nb2 (by decide)
    · refine div0_c (by assumption) (by assumption) (by assumption) (by assumption) (by assumption) rfl (by show dp + 1 + 5 < _; lia  ) (by show un + 3 + 40 < _; lia  ) h1 hb1 hbt ?_
      intro r t t' h' tk' F' N' l'
      k_steps
      rename Fr _ _ _ _ => F3
      rename News _ _ _ _ => N3
      have z := d3_second hP hb h20 h1 ha0 h3
      have y1 : intBits (a12 % b1) ≤ 30000 := Nat.le_trans (mod_bits h1 hb1) (by decide)
      have y2 : intBits (a12 / b1) ≤ 20000 := div_bits ha0 h1 hab
      refine hQQ _ _ ?_
      exact Hold.mk ⟨rfl, fun PP kk => kk _ _ _ _ _ _ _ rfl F3 (fun p hp => N3 p (.tail _ hp)) rfl rfl rfl rfl rfl rfl z.1 z.2.1 z.2.2 y1 (IntMulOk.of_le y2 nb2 (by decide))⟩
  · intro s' hPP
    refine hPP _ ?_
    clear hPP
    rintro h' tk m' q r tq tr rfl F2 N2 q1 q2 q3 q4 q5 q6 r0 e1 e2 e3 e4
    clear F' N'
    refine exec_join (fun s' => ∃ h' tk m' r' tr', s' = { s with heap := h', toks := tk } ∧ Fr g' L' h' m' ∧ News g' L' h' news ∧ m' (Str.ofString "q") = some (.int q tq) ∧ m' (Str.ofString "r") = some (.int r' tr') ∧ m' (Str.ofString "b") = some (.int b t3) ∧
      r' < b ∧ q * b + r' = a12 * 2 ^ n.toNat + a3) ?_ ?_
    · refine opq ?_
      intro QQ EE hQQ
      repeat' (first | ((with_reducible show wpAny _ _ (binaryOp Operator.Mult (Value.int _ _) (Value.int _ _)) _ _ _); (k_here; (with_reducible refine mul_int ?_ (by assumption)))) | ((with_reducible show wpAny _ _ (binaryOp Operator.LShift (Value.int _ _) (Value.int _ _)) _ _ _); (k_here; (with_reducible refine lshift_int (by assumption) (lsh_ok (by assumption) (by assumption)) ?_))) | (k_unfold; (try dsimp only)) | (k_end; kc_close) | walk1 | (dsimp only; first | ((with_reducible show wpAny _ _ (binaryOp Operator.Mult (Value.int _ _) (Value.int _ _)) _ _ _); (k_here; (with_reducible refine mul_int ?_ (by assumption)))) | ((with_reducible show wpAny _ _ (binaryOp Operator.LShift (Value.int _ _) (Value.int _ _)) _ _ _); (k_here; (with_reducible refine lshift_int (by assumption) (lsh_ok (by assumption) (by assumption)) ?_))) | walk1) | (leave1; (try dsimp only)))
      rename Fr _ _ _ _ => F3
      rename News _ _ _ _ => N3
      refine hQQ _ _ ?_
      refine Hold.mk ⟨rfl, _, _, _, _, _, rfl, F3, N3, q1, rfl, q3, ?_, ?_⟩
      · rw [or_low h30 h3]; exact e2
      · rw [or_low h30 h3]; exact d3_sum hb e1
    · clear F2 N2 q1 q2 q3 q4 q5 q6
      rintro s' ⟨h', tk, m', r', tr', rfl, F2, N2, q1, q2, q3, e5, e6⟩
      refine wpAny_execs_cons (While_inv (fun k m₁ n₁ => n₁ = news ∧ ∃ q r tq tr, m₁ (Str.ofString "q") = some (.int q tq) ∧ m₁ (Str.ofString "r") = some (.int r tr) ∧ m₁ (Str.ofString "b") = some (.int b t3) ∧
        r < b ∧ q * b + r = a12 * 2 ^ n.toNat + a3 ∧ k = (-r).toNat) F2 N2 ⟨rfl, _, _, _, _, q1, q2, q3, e5, e6, rfl⟩ ?_)
      clear F2 N2 q1 q2 q3 e5 e6
      rintro k m₁ _ h tk F2 N2 ⟨rfl, q, r, tq, tr, q1, q2, q3, e5, e6, rfl⟩
      k_steps
      · rename Fr _ _ _ _ => F3
        rename News _ _ _ _ => N3
        refine WhileStep.intro F3 N3 (n' := (-(r + b)).toNat) (by lia  ) ⟨rfl, _, _, _, _, rfl, rfl, ?_, by lia  , ?_, rfl⟩
        · exact Eq.trans (if_neg (by decide)) (Eq.trans (if_neg (by decide)) q3)
        · rw [Int.sub_mul, Int.one_mul]; lia  
      · obtain ⟨rfl, rfl⟩ := qr_of e6 (by lia  ) e5
        exact ret _ _ _ _ _ (by assumption) (by assumption) (by assumption)
end Mine

end
section -- W5
theorem Mine.off_W5 : True := by w_top off; trivial
open PySem PySem.W PyProof.Rows
set_option maxRecDepth 100000
namespace Mine
variable {w : World} {p : Program} {loose : List Str} {mean : ExcName → Option Value} {mg mb : Str → Option Value} {dp un : Nat} {gd : Option (List Code)} {cn : Str} {cs : Scope} {a : Addr} {ccd : Value} {cl : List (Str × Addr)} {outer : List Env} {A₀ : Around} {base h₀ : Heap} {L : Addr} {m : Str → Option Value} {news : List (Addr × Obj)} {s : Shared} {Q E : Value → Shared → Prop}
open PySem.Builtin.Int (intBits)
set_option maxHeartbeats 8000000 in
theorem div1_c (B : Below A₀ base outer h₀) (F : Fr h₀ L s.heap m) (X : (hd.heap_1 w.params).In h₀) (N : News h₀ L s.heap news) (T : Top p loose mean mg mb h₀) (hk : cs.kind = .function) (hd : dp + 25 < recursionLimit) (hu : un + 120 < cLine)
  {x y n : Int} {t1 t2 t3 : Tok} (hx : 0 ≤ x) (hy : 0 < y) (hn : n = intBits y) (hn1 : 20 ≤ n) (hn2 : n ≤ 6999) (hxy : x < y * 2 ^ n.toNat) (hx2 : (intBits x : Int) ≤ n + n / 2 + 4000)
  (ret : ∀ r t t' h' tk', Fr h₀ L h' m → News h₀ L h' ((r, tupO [.int (x / y) t, .int (x % y) t']) :: news) → (∀ p ∈ news, p.1 < r) → Q (.ref r) {s with heap := h', toks := tk'}) :
  wpAny (model PySem.Challenge.rw_wy0045_01.row.prog w) (ktrTop dp un gd cn cs L a ccd cl outer) (call (.ref 109) [.int x t1, .int y t2, .int n t3]) Q E s := by
  by_cases hsm : (intBits x : Int) - n ≤ 4000
  · exact div0_c B F X N T hk (by lia  ) (by lia  ) hy (by lia  ) hsm ret
  have i1 : intBits 1 ≤ 30000 := by decide
  have ix : intBits x ≤ 30000 := by lia  
  have iy : intBits y ≤ 30000 := by lia  
  refine wpAny_call ?_
  k_dflt ktr_enter
  rename_i g' L' h1' FG' F' N' B' X' T'
  refine exec_split 3 (fun s' => ∃ h' tk m' A Bv h pad, s' = { s with heap := h', toks := tk } ∧ Fr g' L' h' m' ∧ News g' L' h' news ∧ IntAt m' (Str.ofString "a") A ∧ IntAt m' (Str.ofString "b") Bv ∧
    IntAt m' (Str.ofString "n") ((h + h : Nat) : Int) ∧ IntAt m' (Str.ofString "pad") pad ∧ D1J x y A Bv h pad) ?_ ?_
  · refine opq ?_
    intro QQ EE hQQ
    dsimp only [List.take]
    repeat' (first | ((with_reducible show wpAny _ _ (inplaceOp Operator.LShift (Value.int _ _) (Value.int _ _)) _ _ _); (k_here; (with_reducible refine ilshift_int (by decide) (lsh_ok (by assumption) (by decide)) ?_))) | (k_unfold; (try dsimp only)) | (k_end; kc_close) | walk1 | (dsimp only; first | ((with_reducible show wpAny _ _ (inplaceOp Operator.LShift (Value.int _ _) (Value.int _ _)) _ _ _); (k_here; (with_reducible refine ilshift_int (by decide) (lsh_ok (by assumption) (by decide)) ?_))) | walk1) | (leave1; (try dsimp only)))
    all_goals rename Fr _ _ _ _ => F3
    all_goals rename News _ _ _ _ => N3
    · rename Builtin.bitAnd n 1 ≠ 0 => e
      rw [bitAnd_m1] at e
      obtain ⟨z1, z2⟩ := d1_odd hx hy hn hn1 hn2 hxy hx2 (by lia  )
      refine hQQ _ _ ?_
      exact Hold.mk ⟨by trivial, _, _, _, x * 2, y * 2, _, _, rfl, F3, N3, ⟨_, rfl⟩, ⟨_, rfl⟩, .of rfl z1, .of rfl (by rw [bitAnd_m1]; lia  ), z2⟩
    · rename Builtin.bitAnd n 1 = 0 => e
      rw [bitAnd_m1] at e
      obtain ⟨z1, z2⟩ := d1_even hx hy hn hn1 hn2 hxy hx2 e
      refine hQQ _ _ ?_
      exact Hold.mk ⟨by trivial, _, _, _, x, y, _, _, rfl, F3, N3, ⟨_, rfl⟩, ⟨_, rfl⟩, .of rfl z1, .of rfl (by rw [bitAnd_m1]; lia  ), z2⟩
  · dsimp only [List.drop]
    clear F' N'
    rintro s' ⟨h', tk, m', A, Bv, h, pad, rfl, F2, N2, ⟨ta, q1⟩, ⟨tb, q2⟩, ⟨tn, q3⟩, ⟨tp, q4⟩, J⟩
    have c1 : (0 : Int) ≤ ((h : Nat) : Int) := Int.natCast_nonneg _
    have c2 : ((h : Nat) : Int) ≤ 30000 := by have := J.h2; lia  
    have ch : (((h + h : Nat) : Int)).fdiv (2 ^ (1 : Int).toNat) = ((h : Nat) : Int) := by
      show Int.fdiv _ 2 = _
      rw [Int.fdiv_eq_ediv_of_nonneg _ (by decide)]; lia  
    refine exec_split 3 (fun s' => ∀ PP : Prop, (∀ h' tk m', (s' = { s with heap := h', toks := tk }) → (Fr g' L' h' m') → (News g' L' h' news) → (IntAt m' (Str.ofString "a") A) → (IntAt m' (Str.ofString "b") Bv) → (IntAt m' (Str.ofString "n") ((h + h : Nat) : Int)) → (IntAt m' (Str.ofString "pad") pad) → (IntAt m' (Str.ofString "half_n") h) → (IntAt m' (Str.ofString "mask") (2 ^ h - 1)) → (IntAt m' (Str.ofString "b1") (Bv / 2 ^ h)) → (IntAt m' (Str.ofString "b2") (Bv % 2 ^ h)) → PP) → PP) ?_ ?_
    · refine opq ?_
      intro QQ EE hQQ
      dsimp only [List.take]
      refine exec_join (fun s' => ∀ PP : Prop, (∀ h' tk m', (s' = { s with heap := h', toks := tk }) → (Fr g' L' h' m') → (News g' L' h' news) → (IntAt m' (Str.ofString "a") A) → (IntAt m' (Str.ofString "b") Bv) → (IntAt m' (Str.ofString "n") ((h + h : Nat) : Int)) → (IntAt m' (Str.ofString "pad") pad) → (IntAt m' (Str.ofString "half_n") h) → PP) → PP) ?_ ?_
      · refine opq ?_
        intro QQ EE hQQ
        repeat' (first | ((with_reducible show wpAny _ _ (binaryOp Operator.RShift (Value.int _ _) (Value.int _ _)) _ _ _); (k_here; (with_reducible refine rshift_int (by first | assumption | decide) ?_))) | (k_unfold; (try dsimp only)) | (k_end; kc_close) | walk1 | (dsimp only; first | ((with_reducible show wpAny _ _ (binaryOp Operator.RShift (Value.int _ _) (Value.int _ _)) _ _ _); (k_here; (with_reducible refine rshift_int (by first | assumption | decide) ?_))) | walk1) | (leave1; (try dsimp only)))
        rename Fr _ _ _ _ => F3
        rename News _ _ _ _ => N3
        refine hQQ _ _ ?_
        exact Hold.mk ⟨rfl, fun PP kk => kk _ _ _ rfl F3 N3 ⟨_, q1⟩ ⟨_, q2⟩ ⟨_, q3⟩ ⟨_, q4⟩ (.of rfl ch)⟩
      clear F2 N2 q1 q2 q3 q4
      intro s' hPP
      refine hPP _ ?_
      clear hPP
      rintro h' tk m' rfl F2 N2 ⟨ta, q1⟩ ⟨tb, q2⟩ ⟨tn, q3⟩ ⟨tp, q4⟩ ⟨th, q5⟩
      repeat' (first | ((with_reducible show wpAny _ _ (binaryOp Operator.RShift (Value.int _ _) (Value.int _ _)) _ _ _); (k_here; (with_reducible refine rshift_int (by first | assumption | decide) ?_))) | ((with_reducible show wpAny _ _ (binaryOp Operator.LShift (Value.int _ _) (Value.int _ _)) _ _ _); (k_here; (with_reducible refine lshift_int (by assumption) (lsh_ok (by assumption) (by assumption)) ?_))) | (k_unfold; (try dsimp only)) | (k_end; kc_close) | walk1 | (dsimp only; first | ((with_reducible show wpAny _ _ (binaryOp Operator.RShift (Value.int _ _) (Value.int _ _)) _ _ _); (k_here; (with_reducible refine rshift_int (by first | assumption | decide) ?_))) | ((with_reducible show wpAny _ _ (binaryOp Operator.LShift (Value.int _ _) (Value.int _ _)) _ _ _); (k_here; (with_reducible refine lshift_int (by assumption) (lsh_ok (by assumption) (by assumption)) ?_))) | walk1) | (leave1; (try dsimp only)))
      rename Fr _ _ _ _ => F3
      rename News _ _ _ _ => N3
      refine hQQ _ _ ?_
      refine Hold.mk ⟨rfl, fun PP kk => kk _ _ _ rfl F3 (fun p hp => N3 p (.tail _ hp)) ⟨_, q1⟩ ⟨_, q2⟩ ⟨_, q3⟩ ⟨_, q4⟩ ⟨_, q5⟩ (.of rfl ?_) (.of rfl ?_) (.of rfl ?_)⟩
      · rw [Int.one_mul, Int.toNat_natCast]
      · rw [Int.toNat_natCast, Int.fdiv_eq_ediv_of_nonneg _ (Int.le_of_lt (kbt_pos _))]
      · rw [Int.one_mul, Int.toNat_natCast, kbt_mask]
    dsimp only [List.drop]
    clear F2 N2 q1 q2 q3 q4
    intro s' hPP
    refine hPP _ ?_
    clear hPP
    rintro h' tk m' rfl F2 N2 ⟨ta, q1⟩ ⟨tb, q2⟩ ⟨tn, q3⟩ ⟨tp, q4⟩ ⟨th, q5⟩ ⟨tm, q6⟩ ⟨tb1, q7⟩ ⟨tb2, q8⟩
    have hP : (0 : Int) < 2 ^ h := kbt_pos _
    have hh := J.h1
    have hh2 := J.h2
    have hb0 := J.b0
    have D := d1_split (A := A) (B := Bv) hP J.b0
    have hb1 : 0 < Bv / 2 ^ h := by
      have hb := ge_of_bits (k := h + h - 1) J.b0 (by rw [J.bb]; lia  )
      have hle : (2 : Int) ^ h ≤ 2 ^ (h + h - 1) := by
        rw [← kbt_cast h, ← kbt_cast (h + h - 1)]
        exact Int.ofNat_le.mpr (Nat.pow_le_pow_right (by decide) (by lia  ))
      exact Int.le_ediv_of_mul_le hP (by lia  )
    have hbm0 := Int.emod_nonneg Bv (show (2 : Int) ^ h ≠ 0 by lia  )
    have hbm1 := Int.emod_lt_of_pos Bv hP
    have hbm := Int.mul_ediv_add_emod Bv (2 ^ h)
    rw [Int.mul_comm] at hbm
    have hbb : intBits (Bv / 2 ^ h) ≤ 8999 := div_bits (by lia  ) hP (by rw [J.bb]; lia  )
    refine exec_join (fun s' => ∀ PP : Prop, (∀ h' tk m', (s' = { s with heap := h', toks := tk }) → (Fr g' L' h' m') → (News g' L' h' news) → (IntAt m' (Str.ofString "a") A) → (IntAt m' (Str.ofString "b") Bv) → (IntAt m' (Str.ofString "pad") pad) → (IntAt m' (Str.ofString "half_n") h) → (IntAt m' (Str.ofString "mask") (2 ^ h - 1)) → (IntAt m' (Str.ofString "b1") (Bv / 2 ^ h)) → (IntAt m' (Str.ofString "b2") (Bv % 2 ^ h)) → (IntAt m' (Str.ofString "q1") (A / 2 ^ h / Bv)) → (IntAt m' (Str.ofString "r") (A / 2 ^ h % Bv)) → PP) → PP) ?_ ?_
    · refine opq ?_
      intro QQ EE hQQ
      repeat' (first | ((with_reducible show wpAny _ _ (binaryOp Operator.RShift (Value.int _ _) (Value.int _ _)) _ _ _); (k_here; (with_reducible refine rshift_int (by first | assumption | decide) ?_))) | (k_unfold; (try dsimp only)) | (k_end; kc_close) | walk1 | (dsimp only; first | ((with_reducible show wpAny _ _ (binaryOp Operator.RShift (Value.int _ _) (Value.int _ _)) _ _ _); (k_here; (with_reducible refine rshift_int (by first | assumption | decide) ?_))) | walk1) | (leave1; (try dsimp only)))
      rw [shr_eq, shr_eq, kbt_mask]
      have n12 : A / 2 ^ (h + h) < Bv := Int.ediv_lt_of_lt_mul (kbt_pos _) J.ab
      have z12 : 0 ≤ A / 2 ^ (h + h) := Int.ediv_nonneg J.a0 (Int.le_of_lt (kbt_pos _))
      have b12 : intBits (A / 2 ^ (h + h)) ≤ h + 4000 := div_pow_bits J.a0 J.ba (by lia  )
      have z3 := Int.emod_nonneg (A / 2 ^ h) (show (2 : Int) ^ h ≠ 0 by lia  )
      have n3 := Int.emod_lt_of_pos (A / 2 ^ h) hP
      have w3 : A / 2 ^ (h + h) * 2 ^ h + A / 2 ^ h % 2 ^ h = A / 2 ^ h := by
        rw [div_two, Int.mul_comm]; exact Int.mul_ediv_add_emod _ _
      rename Fr _ _ _ _ => F3
      rename News _ _ _ _ => N3
      refine div3_c (dp := dp + 1) (un := un + 3) (by assumption) F3 (by assumption) N3 (by assumption) rfl (by lia  ) (by lia  ) c1 (by lia  ) ?_ hbm0 ?_ hb1 hbb z12 n12 (by lia  ) z3 ?_ (by lia  ) ?_
      · rw [pow_toNat]; lia  
      · rw [pow_toNat]; exact hbm1
      · rw [pow_toNat]; exact n3
      rw [pow_toNat, w3]
      intro r t t' h' tk' F' N' l'
      clear F3 N3
      k_steps
      rename Fr _ _ _ _ => F3
      rename News _ _ _ _ => N3
      refine hQQ _ _ ?_
      exact Hold.mk ⟨rfl, fun PP kk => kk _ _ _ rfl F3 (fun p hp => N3 p (.tail _ hp)) ⟨_, q1⟩ ⟨_, q2⟩ ⟨_, q4⟩ ⟨_, q5⟩ ⟨_, q6⟩ ⟨_, q7⟩ ⟨_, q8⟩ ⟨_, rfl⟩ ⟨_, rfl⟩⟩
    clear F2 N2 q1 q2 q3 q4 q5 q6 q7 q8
    intro s' hPP
    refine hPP _ ?_
    clear hPP
    rintro h' tk m' rfl F2 N2 ⟨ta, q1⟩ ⟨tb, q2⟩ ⟨tp, q4⟩ ⟨th, q5⟩ ⟨tm, q6⟩ ⟨tb1, q7⟩ ⟨tb2, q8⟩ ⟨tq1, q9⟩ ⟨tr, q10⟩
    refine exec_join (fun s' => ∀ PP : Prop, (∀ h' tk m', (s' = { s with heap := h', toks := tk }) → (Fr g' L' h' m') → (News g' L' h' news) → (IntAt m' (Str.ofString "pad") pad) → (IntAt m' (Str.ofString "half_n") h) → (IntAt m' (Str.ofString "q1") (A / 2 ^ h / Bv)) → (IntAt m' (Str.ofString "q2") ((A / 2 ^ h % Bv * 2 ^ h + A % 2 ^ h) / Bv)) → (IntAt m' (Str.ofString "r") (A % Bv)) → PP) → PP) ?_ ?_
    · refine opq ?_
      intro QQ EE hQQ
      k_steps
      rw [kbt_mask]
      have n12 : A / 2 ^ h % Bv < Bv := Int.emod_lt_of_pos _ hb0
      have z12 : 0 ≤ A / 2 ^ h % Bv := Int.emod_nonneg _ (by lia  )
      have b12 : intBits (A / 2 ^ h % Bv) ≤ h + h := mod_bits hb0 (by rw [J.bb]; exact Nat.le_refl _)
      have z3 := Int.emod_nonneg A (show (2 : Int) ^ h ≠ 0 by lia  )
      have n3 := Int.emod_lt_of_pos A hP
      rename Fr _ _ _ _ => F3
      rename News _ _ _ _ => N3
      refine div3_c (dp := dp + 1) (un := un + 3) (by assumption) F3 (by assumption) N3 (by assumption) rfl (by lia  ) (by lia  ) c1 (by lia  ) ?_ hbm0 ?_ hb1 hbb z12 n12 (by lia  ) z3 ?_ (by lia  ) ?_
      · rw [pow_toNat]; lia  
      · rw [pow_toNat]; exact hbm1
      · rw [pow_toNat]; exact n3
      rw [pow_toNat, D.2.1]
      intro r t t' h' tk' F' N' l'
      clear F3 N3
      k_steps
      rename Fr _ _ _ _ => F3
      rename News _ _ _ _ => N3
      refine hQQ _ _ ?_
      exact Hold.mk ⟨rfl, fun PP kk => kk _ _ _ rfl F3 (fun p hp => N3 p (.tail _ hp)) ⟨_, q4⟩ ⟨_, q5⟩ ⟨_, q9⟩ ⟨_, rfl⟩ ⟨_, rfl⟩⟩
    clear F2 N2 q1 q2 q4 q5 q6 q7 q8 q9 q10
    intro s' hPP
    refine hPP _ ?_
    clear hPP
    rintro h' tk m' rfl F2 N2 ⟨tp, q4⟩ ⟨th, q5⟩ ⟨tq1, q9⟩ ⟨tq2, q10⟩ ⟨tr, q11⟩
    refine exec_join (fun s' => ∀ PP : Prop, (∀ h' tk m', (s' = { s with heap := h', toks := tk }) → (Fr g' L' h' m') → (News g' L' h' news) → (IntAt m' (Str.ofString "half_n") h) → (IntAt m' (Str.ofString "q1") (A / 2 ^ h / Bv)) → (IntAt m' (Str.ofString "q2") ((A / 2 ^ h % Bv * 2 ^ h + A % 2 ^ h) / Bv)) → (IntAt m' (Str.ofString "r") (x % y)) → PP) → PP) ?_ ?_
    · refine opq ?_
      intro QQ EE hQQ
      rcases J.r with ⟨rfl, e⟩ | ⟨rfl, e⟩
      · k_steps
        rename Fr _ _ _ _ => F3
        rename News _ _ _ _ => N3
        refine hQQ _ _ ?_
        exact Hold.mk ⟨rfl, fun PP kk => kk _ _ _ rfl F3 N3 ⟨_, q5⟩ ⟨_, q9⟩ ⟨_, q10⟩ (.of q11 e)⟩
      · repeat' (first | ((with_reducible show wpAny _ _ (inplaceOp Operator.RShift (Value.int _ _) (Value.int _ _)) _ _ _); (k_here; (with_reducible refine irshift_int (by first | assumption | decide) ?_))) | (k_unfold; (try dsimp only)) | (k_end; kc_close) | walk1 | (dsimp only; first | ((with_reducible show wpAny _ _ (inplaceOp Operator.RShift (Value.int _ _) (Value.int _ _)) _ _ _); (k_here; (with_reducible refine irshift_int (by first | assumption | decide) ?_))) | walk1) | (leave1; (try dsimp only)))
        rename Fr _ _ _ _ => F3
        rename News _ _ _ _ => N3
        refine hQQ _ _ ?_
        refine Hold.mk ⟨rfl, fun PP kk => kk _ _ _ rfl F3 N3 ⟨_, q5⟩ ⟨_, q9⟩ ⟨_, q10⟩ (.of rfl ?_)⟩
        rw [e]
        show Int.fdiv _ 2 = _
        rw [Int.fdiv_eq_ediv_of_nonneg _ (by decide)]; lia  
    clear F2 N2 q4 q5 q9 q10 q11
    intro s' hPP
    refine hPP _ ?_
    clear hPP
    rintro h' tk m' rfl F2 N2 ⟨th, q5⟩ ⟨tq1, q9⟩ ⟨tq2, q10⟩ ⟨tr, q11⟩
    have iq : intBits (A / 2 ^ h / Bv) ≤ 30000 := div_bits (Int.ediv_nonneg J.a0 (Int.le_of_lt hP)) hb0 (div_bits J.a0 hP (by have := J.ba; lia  ))
    repeat' (first | ((with_reducible show wpAny _ _ (binaryOp Operator.LShift (Value.int _ _) (Value.int _ _)) _ _ _); (k_here; (with_reducible refine lshift_int (by assumption) (lsh_ok (by assumption) (by assumption)) ?_))) | (k_unfold; (try dsimp only)) | (k_end; kc_close) | walk1 | (dsimp only; first | ((with_reducible show wpAny _ _ (binaryOp Operator.LShift (Value.int _ _) (Value.int _ _)) _ _ _); (k_here; (with_reducible refine lshift_int (by assumption) (lsh_ok (by assumption) (by assumption)) ?_))) | walk1) | (leave1; (try dsimp only)))
    have eQ : Builtin.bitOr (A / 2 ^ h / Bv * 2 ^ ((h : Nat) : Int).toNat) ((A / 2 ^ h % Bv * 2 ^ h + A % 2 ^ h) / Bv) = x / y := by
      rw [pow_toNat, or_low D.2.2.1 D.2.2.2, D.1, J.q]
    rename News _ _ _ _ => kN
    rw [eQ] at kN
    exact ret _ _ _ _ _ (by assumption) kN (by assumption)
end Mine

end
section -- P2
open PySem PySem.W PyProof.Rows
set_option maxRecDepth 100000
namespace Mine
section
variable {prog : Program} {w : World} {A : Around} {E : Value → Shared → Prop} {s : Shared} {env : Env} {h₀ : Heap} {target : Expr} {body : List Stmt} {Q : Flow → Shared → Prop}

/-- what a turn of a loop leaves: the iterator as it stood, the rest by the word J -/
noncomputable def TurnTo (h₀ : Heap) (L : Addr) (s : Shared) (I : Addr) (o : Obj) (K : List (Addr × Obj)) (J : (Str → Option Value) → List (Addr × Obj) → Prop) (s' : Shared) : Prop :=
  ∃ h' tk m' n', s' = { s with heap := h', toks := tk } ∧ Fr h₀ L h' m' ∧ News h₀ L h' ((I, o) :: n') ∧ (∀ p ∈ n', p.1 ≠ I) ∧ (∀ p ∈ K, p ∈ n') ∧ J m' n'
noncomputable def TurnPostJ (h₀ : Heap) (L : Addr) (s : Shared) (I : Addr) (o : Obj) (K : List (Addr × Obj)) (Q : Flow → Shared → Prop) (J : (Str → Option Value) → List (Addr × Obj) → Prop) (f : Flow) (s' : Shared) : Prop :=
  match f with
  | .ret v => Q (.ret v) s'
  | .brk => Q .next s'
  | _ => TurnTo h₀ L s I o K J s'
theorem TurnTo.mk {L : Addr} {I : Addr} {o : Obj} {K : List (Addr × Obj)} {J : (Str → Option Value) → List (Addr × Obj) → Prop} {h' : Heap} {tk : Nat} {m' : Str → Option Value} {n' : List (Addr × Obj)}
    (F : Fr h₀ L h' m') (N : News h₀ L h' ((I, o) :: n')) (hI : ∀ p ∈ n', p.1 ≠ I) (hK : ∀ p ∈ K, p ∈ n') (hJ : J m' n') : TurnTo h₀ L s I o K J { s with heap := h', toks := tk } :=
  ⟨h', tk, m', n', rfl, F, N, hI, hK, hJ⟩

theorem rest_of {ax : Addr} {lo : Obj} {c : String} {I : Addr} (J : List Value → (Str → Option Value) → List (Addr × Obj) → Prop)
    (turn : ∀ v r m n o h tk, J (v :: r) m n → (∀ p ∈ n, p.1 ≠ I) → (ax, lo) ∈ n → Fr h₀ env.locals h m → News h₀ env.locals h ((I, o) :: n) →
      wpAny (model prog w) A (assign target env v) (fun _ s₂ => wpAny (model prog w) A (execs body env) (TurnPostJ h₀ env.locals { s with heap := h, toks := tk } I o [(ax, lo)] Q (J r)) E s₂) E { s with heap := h, toks := tk })
    (done : ∀ m n h tk, J [] m n → Fr h₀ env.locals h m → News h₀ env.locals h n → Q .next { s with heap := h, toks := tk }) :
    ∀ (vs : List Value) (m : Str → Option Value) (n : List (Addr × Obj)), J vs m n → (∀ p ∈ n, p.1 ≠ I) → (ax, lo) ∈ n → ItemsRest prog w A E h₀ env target body Q s [(I, c)] [(ax, lo)] (vs.map .val) m n := by
  intro vs
  induction vs with
  | nil =>
    intro m n hJ _ _
    exact fun h tk F N => done m n h tk hJ F N
  | cons v r ih =>
    intro m n hJ hI hm
    refine ItemsRest.val fun h tk F o ho N => ?_
    refine wpAny_mono (turn v r m n o h tk hJ hI hm F N) (fun _ s₂ h₂ => wpAny_mono h₂ (fun f s₃ h₃ => ?_) fun _ _ e => e) fun _ _ e => e
    have fin : TurnTo h₀ env.locals { s with heap := h, toks := tk } I o [(ax, lo)] (J r) s₃ → UnrEndW h₀ env.locals { s with heap := h, toks := tk } [(I, o)] (fun m' n' => SubL [(ax, lo)] n' ∧ ItemsRest prog w A E h₀ env target body Q s [(I, c)] [(ax, lo)] (r.map .val) m' n') s₃ := by
      rintro ⟨h', tk', m', n', rfl, F', N', hI', hK', hJ'⟩
      refine ⟨h', tk', m', n', rfl, F', N', fun p hp q hq => ?_, ⟨hK' _ (List.mem_singleton.mpr rfl), trivial⟩, ih m' n' hJ' hI' (hK' _ (List.mem_singleton.mpr rfl))⟩
      rw [List.mem_singleton.mp hq]; exact hI' p hp
    cases f with
    | ret v => exact h₃
    | brk => exact h₃
    | cont => exact fin h₃
    | next => exact fin h₃

/-- a loop over a list of the ledger, by a word J over the items that are left -/
theorem for_list {L : Addr} {ax : Addr} {lo : Obj} {vs : List Value} {k : Nat} {m₀ : Str → Option Value} {news : List (Addr × Obj)} (J : List Value → (Str → Option Value) → List (Addr × Obj) → Prop)
    (hh : A.handled = none) (F : Fr h₀ L s.heap m₀) (N : News h₀ L s.heap news) (hm : (ax, lo) ∈ news) (hc : lo.cls = .type "list") (hd : lo.data = .seq vs.toArray k) (hJ : J vs m₀ news)
    (turn : ∀ I v r m n o h tk, J (v :: r) m n → (∀ p ∈ n, p.1 ≠ I) → (ax, lo) ∈ n → Fr h₀ L h m → News h₀ L h ((I, o) :: n) →
      wpAny (model prog w) A (assign target env v) (fun _ s₂ => wpAny (model prog w) A (execs body env) (TurnPostJ h₀ L { s with heap := h, toks := tk } I o [(ax, lo)] Q (J r)) E s₂) E { s with heap := h, toks := tk })
    (done : ∀ m n h tk, J [] m n → Fr h₀ L h m → News h₀ L h n → Q .next { s with heap := h, toks := tk }) (hL : env.locals = L := by rfl) :
    wpAny (model prog w) A (pyIter (.ref ax)) (fun it s₂ => TurnsAt prog w A h₀ env target body Q E it s₂) E s := by
  subst hL
  exact iter_listTurns hh F N hm hc hd fun I hI => rest_of J (turn I) done vs m₀ news hJ (fun p hp => Nat.ne_of_lt (hI p hp)) hm
theorem for_tup {L : Addr} {ax : Addr} {lo : Obj} {vs : List Value} {k : Nat} {m₀ : Str → Option Value} {news : List (Addr × Obj)} (J : List Value → (Str → Option Value) → List (Addr × Obj) → Prop)
    (hh : A.handled = none) (F : Fr h₀ L s.heap m₀) (N : News h₀ L s.heap news) (hm : (ax, lo) ∈ news) (hc : lo.cls = .type "tuple") (hd : lo.data = .seq vs.toArray k) (hJ : J vs m₀ news)
    (turn : ∀ I v r m n o h tk, J (v :: r) m n → (∀ p ∈ n, p.1 ≠ I) → (ax, lo) ∈ n → Fr h₀ L h m → News h₀ L h ((I, o) :: n) →
      wpAny (model prog w) A (assign target env v) (fun _ s₂ => wpAny (model prog w) A (execs body env) (TurnPostJ h₀ L { s with heap := h, toks := tk } I o [(ax, lo)] Q (J r)) E s₂) E { s with heap := h, toks := tk })
    (done : ∀ m n h tk, J [] m n → Fr h₀ L h m → News h₀ L h n → Q .next { s with heap := h, toks := tk }) (hL : env.locals = L := by rfl) :
    wpAny (model prog w) A (pyIter (.ref ax)) (fun it s₂ => TurnsAt prog w A h₀ env target body Q E it s₂) E s := by
  subst hL
  exact iter_tupTurns hh F N hm hc hd fun I hI => rest_of J (turn I) done vs m₀ news hJ (fun p hp => Nat.ne_of_lt (hI p hp)) hm
end
end Mine
namespace Mine
theorem News.sub {h₀ h : Heap} {L : Addr} {n n' : List (Addr × Obj)} (N : News h₀ L h n') (k : ∀ p ∈ n, p ∈ n') : News h₀ L h n := fun p hp => N p (k p hp)
end Mine
namespace Mine
section
variable {prog : Program} {w : World} {A : Around} {E : Value → Shared → Prop} {s : Shared} {env : Env} {h₀ : Heap} {target : Expr} {body : List Stmt} {Q : Flow → Shared → Prop}
theorem restP_of {ax : Addr} {lo : Obj} {c : String} {I : Addr} (J : List (Str × Value) → (Str → Option Value) → List (Addr × Obj) → Prop)
    (turn : ∀ k x r m n o h tk T t, J ((k, x) :: r) m n → (∀ p ∈ n, p.1 ≠ I) → (ax, lo) ∈ n → Fr h₀ env.locals h m → News h₀ env.locals h ((I, o) :: n) → IsTup h T #[.str k t, x] →
      wpAny (model prog w) A (assign target env (.ref T)) (fun _ s₂ => wpAny (model prog w) A (execs body env) (TurnPostJ h₀ env.locals { s with heap := h, toks := tk } I o [(ax, lo)] Q (J r)) E s₂) E { s with heap := h, toks := tk })
    (done : ∀ m n h tk, J [] m n → Fr h₀ env.locals h m → News h₀ env.locals h n → Q .next { s with heap := h, toks := tk }) :
    ∀ (kvs : List (Str × Value)) (m : Str → Option Value) (n : List (Addr × Obj)), J kvs m n → (∀ p ∈ n, p.1 ≠ I) → (ax, lo) ∈ n → ItemsRest prog w A E h₀ env target body Q s [(I, c)] [(ax, lo)] (kvs.map (fun p => Itm.pair (kyVal (PyData.str p.1)) p.2)) m n := by
  intro vs
  induction vs with
  | nil =>
    intro m n hJ _ _
    exact fun h tk F N => done m n h tk hJ F N
  | cons kx r ih =>
    obtain ⟨k, x⟩ := kx
    intro m n hJ hI hm
    refine ItemsRest.pair fun T t h tk hT F o ho N => ?_
    refine wpAny_mono (turn k x r m n o h tk T t hJ hI hm F N hT) (fun _ s₂ h₂ => wpAny_mono h₂ (fun f s₃ h₃ => ?_) fun _ _ e => e) fun _ _ e => e
    have fin : TurnTo h₀ env.locals { s with heap := h, toks := tk } I o [(ax, lo)] (J r) s₃ → UnrEndW h₀ env.locals { s with heap := h, toks := tk } [(I, o)] (fun m' n' => SubL [(ax, lo)] n' ∧ ItemsRest prog w A E h₀ env target body Q s [(I, c)] [(ax, lo)] (r.map (fun p => Itm.pair (kyVal (PyData.str p.1)) p.2)) m' n') s₃ := by
      rintro ⟨h', tk', m', n', rfl, F', N', hI', hK', hJ'⟩
      refine ⟨h', tk', m', n', rfl, F', N', fun p hp q hq => ?_, ⟨hK' _ (List.mem_singleton.mpr rfl), trivial⟩, ih m' n' hJ' hI' (hK' _ (List.mem_singleton.mpr rfl))⟩
      rw [List.mem_singleton.mp hq]; exact hI' p hp
    cases f with
    | ret v => exact h₃
    | brk => exact h₃
    | cont => exact fin h₃
    | next => exact fin h₃
theorem strKey_is {k : Str} {v : Value} (h : (PySem.strKind prog w).is k v = true) : ∃ t, v = kyVal (PyData.str k) t := by
  cases v with
  | str x t =>
    have : x = k := by
      have e : Value.isStrOf k (.str x t) = true := h
      simp [Value.isStrOf] at e
      first | exact e | exact e.symm
    exact ⟨t, by rw [this]; rfl⟩
  | _ => exact absurd h (by intro e; cases e)
/-- a loop over the items of a dict with texts for keys -/
theorem for_items {elts : List Expr} {kk : Nat} {pos : Pos} {L : Addr} {vw d : Addr} {od : Obj} {kvs : List (Str × Value)} {m₀ : Str → Option Value} {news : List (Addr × Obj)} (J : List (Str × Value) → (Str → Option Value) → List (Addr × Obj) → Prop)
    (hh : A.handled = none) (F : Fr h₀ L s.heap m₀) (N : News h₀ L s.heap news) (hvw : ∃ ov, s.heap.get? vw = some ov ∧ ov.cls = .type "dict_items" ∧ ov.data = .fields #[.ref d]) (hm : (d, od) ∈ news) (hd : od.IsDictOf (PySem.strKind prog w) kvs) (hJ : J kvs m₀ news)
    (turn : ∀ I k x r m n o h tk T t, J ((k, x) :: r) m n → (∀ p ∈ n, p.1 ≠ I) → (d, od) ∈ n → Fr h₀ L h m → News h₀ L h ((I, o) :: n) → IsTup h T #[.str k t, x] →
      wpAny (model prog w) A (assign (.Tuple elts kk pos) env (.ref T)) (fun _ s₂ => wpAny (model prog w) A (execs body env) (TurnPostJ h₀ L { s with heap := h, toks := tk } I o [(d, od)] Q (J r)) E s₂) E { s with heap := h, toks := tk })
    (done : ∀ m n h tk, J [] m n → Fr h₀ L h m → News h₀ L h n → Q .next { s with heap := h, toks := tk }) (hL : env.locals = L := by rfl) :
    wpAny (model prog w) A (pyIter (.ref vw)) (fun it s₂ => TurnsAt prog w A h₀ env (.Tuple elts kk pos) body Q E it s₂) E s := by
  subst hL
  exact kta_items (enc := PyData.str) hh F N hvw hm hd (fun k v h => strKey_is h) rfl fun I hI => restP_of J (turn I) done kvs m₀ news hJ (fun p hp => Nat.ne_of_lt (hI p hp)) hm
end
end Mine
namespace Mine
/-- pairs of a text and a number, as a dict has them -/
noncomputable def CallV (kvs : List (Str × Value)) (l : List (Str × Int)) : Prop := kvs.map (·.1) = l.map (·.1) ∧ ∀ k v, valueAt kvs k = some v → ∃ n t, v = .int n t ∧ (l.find? fun p => p.1 = k).map (·.2) = some n
inductive CV : List (Str × Value) → List (Str × Int) → Prop
  | nil : CV [] []
  | cons {k : Str} {n : Int} {t : Tok} {r : List (Str × Value)} {l : List (Str × Int)} (h : CV r l) : CV ((k, .int n t) :: r) ((k, n) :: l)
noncomputable def getS (l : List (Str × Int)) (k : Str) : Option Int := (l.find? fun p => p.1 = k).map (·.2)
noncomputable def putS (l : List (Str × Int)) (k : Str) (v : Int) : List (Str × Int) := if l.any (fun p => p.1 = k) then l.map (fun p => if p.1 = k then (p.1, v) else p) else l ++ [(k, v)]
theorem CV.snoc {a : List (Str × Value)} {b : List (Str × Int)} {k : Str} {n : Int} {t : Tok} (h : CV a b) : CV (a ++ [(k, .int n t)]) (b ++ [(k, n)]) := by
  induction h with
  | nil => exact .cons .nil
  | cons _ ih => exact .cons ih
theorem CV.any {a : List (Str × Value)} {b : List (Str × Int)} {k : Str} (h : CV a b) : (a.any fun p => p.1 = k) = (b.any fun p => p.1 = k) := by
  induction h with
  | nil => rfl
  | cons _ ih => simp only [List.any_cons, ih]
theorem CV.upd {a : List (Str × Value)} {b : List (Str × Int)} {k : Str} {n : Int} {t : Tok} (h : CV a b) : CV (a.map fun p => if p.1 = k then (p.1, .int n t) else p) (b.map fun p => if p.1 = k then (p.1, n) else p) := by
  induction h with
  | nil => exact .nil
  | @cons k' n' t' r l _ ih =>
    simp only [List.map_cons]
    by_cases e : k' = k
    · rw [if_pos e, if_pos e]; exact .cons ih
    · rw [if_neg e, if_neg e]; exact .cons ih
theorem CV.put {a : List (Str × Value)} {b : List (Str × Int)} {k : Str} {n : Int} {t : Tok} (h : CV a b) : CV (stored a k (.int n t)) (putS b k n) := by
  unfold stored putS
  rw [h.any]
  split
  · exact h.upd
  · exact h.snoc
theorem CV.at {a : List (Str × Value)} {b : List (Str × Int)} {k : Str} (h : CV a b) : (∃ n t, valueAt a k = some (.int n t) ∧ getS b k = some n) ∨ (valueAt a k = none ∧ getS b k = none) := by
  induction h with
  | nil => exact .inr ⟨rfl, rfl⟩
  | @cons k' n' t' r l _ ih =>
    unfold valueAt getS at ih ⊢
    by_cases e : k' = k
    · exact .inl ⟨n', t', by simp [e], by simp [e]⟩
    · simpa [List.find?_cons, e] using ih
theorem CV.length {a : List (Str × Value)} {b : List (Str × Int)} (h : CV a b) : a.length = b.length := by
  induction h with
  | nil => rfl
  | cons _ ih => simp [ih]
theorem putS_length (l : List (Str × Int)) (k : Str) (v : Int) : (putS l k v).length ≤ l.length + 1 := by
  unfold putS; split <;> simp
noncomputable def addS1 (acc : List (Str × Int)) (p : Str × Int) : List (Str × Int) := match getS acc p.1 with
  | some x => putS acc p.1 (x + p.2)
  | none => putS acc p.1 p.2
noncomputable def copyS (acc l : List (Str × Int)) : List (Str × Int) := l.foldl (fun a p => putS a p.1 p.2) acc
noncomputable def addS (t s : List (Str × Int)) : List (Str × Int) := s.foldl addS1 (copyS [] t)
end Mine

end
section -- what the walks from here on share
open Mine PySem PySem.W PyProof.Rows
local macro_rules | `(tactic| k_mem) => `(tactic| assumption)
section -- W6
theorem Mine.off_W6 : True := by w_top off; trivial
open PySem PySem.W PyProof.Rows
set_option maxRecDepth 100000
namespace Mine
variable {w : World} {p : Program} {loose : List Str} {mean : ExcName → Option Value} {mg mb : Str → Option Value} {dp un : Nat} {gd : Option (List Code)} {cn : Str} {cs : Scope} {a : Addr} {ccd : Value} {cl : List (Str × Addr)} {outer : List Env} {A₀ : Around} {base h₀ : Heap} {L : Addr} {m : Str → Option Value} {news : List (Addr × Obj)} {s : Shared} {Q E : Value → Shared → Prop}

noncomputable def cmpV (d0 d1 q q' : Int) (n n' : Str) : Int :=
  if q < q' then -d0 else if q' < q then d0 else if n.cps.toList < n'.cps.toList then -d1 else if n'.cps.toList < n.cps.toList then d1 else 0
set_option maxHeartbeats 8000000 in
theorem compare_c (B : Below A₀ base outer h₀) (F : Fr h₀ L s.heap m) (X : (hd.heap_1 w.params).In h₀) (N : News h₀ L s.heap news) (T : Top p loose mean mg mb h₀) (hk : cs.kind = .function) (hd : dp + 5 < recursionLimit) (hu : un + 40 < cLine)
  {x d l t0 t1 pL pR : Addr} {hkey : Int} {tk0 : Tok} {ep : Nat} {i0 i1 td0 td1 tq tn tq' tn' : Tok} {d0 d1 q q' : Int} {n n' : Str}
  (m1 : (x, instObj 62 d) ∈ news) (m2 : (d, dictOf [⟨hkey, .str (Str.ofString "comp_select_list") tk0, .ref l⟩] 1) ∈ news)
  (m3 : (l, lstO [.ref t0, .ref t1] ep) ∈ news) (m4 : (t0, tupO [.int 0 i0, .int d0 td0]) ∈ news) (m5 : (t1, tupO [.int 1 i1, .int d1 td1]) ∈ news)
  (m6 : (pL, tupO [.int q tq, .str n tn]) ∈ news) (m7 : (pR, tupO [.int q' tq', .str n' tn']) ∈ news)
  (ret : ∀ v t h' tk', v = cmpV d0 d1 q q' n n' → Fr h₀ L h' m → News h₀ L h' news → Q (.int v t) {s with heap := h', toks := tk'}) :
  wpAny (model PySem.Challenge.rw_wy0045_01.row.prog w) (ktrTop dp un gd cn cs L a ccd cl outer) (call (.ref 59) [.ref x, .ref pL, .ref pR]) Q E s := by
  refine wpAny_call ?_
  k_dflt ktr_enter
  rename_i g' L' h1' FG' F' N' B' X' T'
  refine wpAny_execs_cons (For_turns F' ?_)
  k_steps
  refine for_list (fun rem m₁ n₁ => n₁ = news ∧ m₁ (Str.ofString "left") = some (.ref pL) ∧ m₁ (Str.ofString "right") = some (.ref pR) ∧ (rem = [.ref t0, .ref t1] ∨ (rem = [.ref t1] ∧ q = q') ∨ (rem = [] ∧ q = q' ∧ ¬ n.cps.toList < n'.cps.toList ∧ ¬ n'.cps.toList < n.cps.toList)))
    rfl (by assumption) (by assumption) m3 rfl rfl ⟨rfl, rfl, rfl, .inl rfl⟩ ?_ ?_
  · clear F' N'
    rintro I v r m₁ n₁ o h tk ⟨rfl, q1, q2, rm⟩ hI hm F1 N1
    rcases rm with e | ⟨e, eq⟩ | ⟨e, eq⟩
    · cases e
      k_steps
      · dsimp only [TurnPostJ]
        k_steps
        exact ret _ _ _ _ (by simp [cmpV, *]) (by assumption) (News.sub (by assumption) fun p hp => .tail _ hp)
      · dsimp only [TurnPostJ]
        k_steps
        exact ret _ _ _ _ (by simp [cmpV, *]) (by assumption) (News.sub (by assumption) fun p hp => .tail _ hp)
      · rename Fr _ _ _ _ => F3
        rename News _ _ _ _ => N3
        exact TurnTo.mk F3 N3 hI (fun p hp => by rw [List.mem_singleton.mp hp]; exact hm) ⟨rfl, q1, q2, .inr (.inl ⟨rfl, by lia  ⟩)⟩
    · cases e
      k_steps
      · dsimp only [TurnPostJ]
        k_steps
        exact ret _ _ _ _ (by simp [cmpV, *]) (by assumption) (News.sub (by assumption) fun p hp => .tail _ hp)
      · dsimp only [TurnPostJ]
        k_steps
        exact ret _ _ _ _ (by simp [cmpV, *]) (by assumption) (News.sub (by assumption) fun p hp => .tail _ hp)
      · rename Fr _ _ _ _ => F3
        rename News _ _ _ _ => N3
        exact TurnTo.mk F3 N3 hI (fun p hp => by rw [List.mem_singleton.mp hp]; exact hm) ⟨rfl, q1, q2, .inr (.inr ⟨rfl, by lia  , by assumption, by assumption⟩)⟩
    · cases e
  · rintro m₁ n₁ h tk ⟨rfl, q1, q2, rm⟩ F1 N1
    rcases rm with e | ⟨e, eq⟩ | ⟨e, eq⟩
    · cases e
    · cases e
    · k_steps
      exact ret _ _ _ _ (by simp [cmpV, *]) (by assumption) (by assumption)
end Mine

end
section -- what the walks from here on share
open Mine PySem PySem.W PyProof.Rows
namespace Mine
theorem neAll_lt {news : List (Addr × Obj)} {d : Addr} (h : ∀ p ∈ news, p.1 < d) : ∀ p ∈ news, p.1 ≠ d := fun p hp => Nat.ne_of_lt (h p hp)
theorem neAll_cons {news : List (Addr × Obj)} {d : Addr} {x : Addr × Obj} (h1 : x.1 ≠ d) (h : ∀ p ∈ news, p.1 ≠ d) : ∀ p ∈ x :: news, p.1 ≠ d := List.forall_mem_cons.mpr ⟨h1, h⟩
end Mine
local macro_rules | `(tactic| k_all) => `(tactic| first | assumption | (refine neAll_lt ?_; assumption) | (refine neAll_cons ?_ ?_; focus k_ne; k_all))
local macro_rules | `(tactic| k_ne) => `(tactic| first | assumption | (refine Ne.symm ?_; assumption))
section -- W7
theorem Mine.off_W7 : True := by w_top off; trivial
open PySem PySem.W PyProof.Rows
set_option maxRecDepth 100000
namespace Mine
variable {w : World} {p : Program} {loose : List Str} {mean : ExcName → Option Value} {mg mb : Str → Option Value} {dp un : Nat} {gd : Option (List Code)} {cn : Str} {cs : Scope} {a : Addr} {ccd : Value} {cl : List (Str × Addr)} {outer : List Env} {A₀ : Around} {base h₀ : Heap} {L : Addr} {m : Str → Option Value} {news : List (Addr × Obj)} {s : Shared} {Q E : Value → Shared → Prop}
set_option maxHeartbeats 8000000 in
theorem add_callers_c (B : Below A₀ base outer h₀) (F : Fr h₀ L s.heap m) (X : (hd.heap_1 w.params).In h₀) (N : News h₀ L s.heap news) (T : Top p loose mean mg mb h₀) (hk : cs.kind = .function) (hd : dp + 5 < recursionLimit) (hu : un + 40 < cLine)
  {dT dS : Addr} {oT oS : Obj} {kT kS : List (Str × Value)} {lT lS : List (Str × Int)} (loT : (dT == sysModules) = false) (loS : (dS == sysModules) = false) (m1 : (dT, oT) ∈ news) (m2 : (dS, oS) ∈ news) (hT : oT.IsDictOf (PySem.strKind PySem.Challenge.rw_wy0045_01.row.prog w) kT) (hS : oS.IsDictOf (PySem.strKind PySem.Challenge.rw_wy0045_01.row.prog w) kS)
  (vT : CV kT lT) (vS : CV kS lS) (hsz : kT.length + kS.length ≤ 1000)
  (ret : ∀ r o kR h' tk', Fr h₀ L h' m → News h₀ L h' ((r, o) :: news) → (∀ p ∈ news, p.1 < r) → (r == sysModules) = false → o.IsDictOf (PySem.strKind PySem.Challenge.rw_wy0045_01.row.prog w) kR → CV kR (addS lT lS) → Q (.ref r) {s with heap := h', toks := tk'}) :
  wpAny (model PySem.Challenge.rw_wy0045_01.row.prog w) (ktrTop dp un gd cn cs L a ccd cl outer) (call (.ref 80) [.ref dT, .ref dS]) Q E s := by
  refine wpAny_call ?_
  k_dflt ktr_enter
  rename_i g' L' h1' FG' F' N' B' X' T'
  refine exec_join (fun s' => ∀ PP : Prop, (∀ h' tk m' d o, (s' = { s with heap := h', toks := tk }) → (Fr g' L' h' m') → (News g' L' h' ((d, o) :: news)) → (∀ p ∈ news, p.1 < d) → ((d == sysModules) = false) → (o.IsDictOf (PySem.strKind PySem.Challenge.rw_wy0045_01.row.prog w) []) → (m' (Str.ofString "new_callers") = some (.ref d)) → (m' (Str.ofString "target") = some (.ref dT)) → (m' (Str.ofString "source") = some (.ref dS)) → PP) → PP) ?_ ?_
  · refine opq ?_
    intro QQ EE hQQ
    k_steps
    rename Fr _ _ _ _ => F3
    rename News _ _ _ _ => N3
    refine hQQ _ _ ?_
    exact Hold.mk ⟨rfl, fun PP kk => kk _ _ _ _ _ rfl F3 N3 (by assumption) (by assumption) (by assumption) rfl rfl rfl⟩
  clear F' N'
  intro s' hPP
  refine hPP _ ?_
  clear hPP
  rintro h' tk m' d o rfl F1 N1 lt lo dd q1 q2 q3
  have ltd : ∀ p ∈ news, p.1 ≠ d := fun p hp => Nat.ne_of_lt (lt p hp)
  refine exec_join (fun s' => ∀ PP : Prop, (∀ h' tk m' o kD, (s' = { s with heap := h', toks := tk }) → (Fr g' L' h' m') → (News g' L' h' ((d, o) :: news)) → (o.IsDictOf (PySem.strKind PySem.Challenge.rw_wy0045_01.row.prog w) kD) → (CV kD (copyS [] lT)) → (kD.length ≤ kT.length) → (m' (Str.ofString "new_callers") = some (.ref d)) → (m' (Str.ofString "source") = some (.ref dS)) → PP) → PP) ?_ ?_
  · refine opqQ ?_
    intro QQ hQQ
    refine For_turns F1 ?_
    repeat' (first | ((with_reducible show wpAny _ _ (PySem.call (Value.builtin "dict.items") _ _) _ _ _); (k_here; k_dflt (refine kta_callItems (knd := PySem.strKind _ _) (by with_reducible assumption) (by with_reducible assumption) (by k_mem) (by with_reducible assumption) (by with_reducible assumption) ?_); intro _ _ _ _)) | ((k_here; (with_reducible show wpAny _ _ (getMethod (Value.ref _) (PySem.Str.ofString "items") _) _ _ _); k_dflt (refine kdl_method (knd := PySem.strKind _ _) PySem.F.slot_dict_items PySem.F.type_dict_items (by with_reducible assumption) (by k_mem) (by with_reducible assumption) ?_))) | (k_unfold; (try dsimp only)) | (k_end; kc_close) | walk1 | (dsimp only; first | ((with_reducible show wpAny _ _ (PySem.call (Value.builtin "dict.items") _ _) _ _ _); (k_here; k_dflt (refine kta_callItems (knd := PySem.strKind _ _) (by with_reducible assumption) (by with_reducible assumption) (by k_mem) (by with_reducible assumption) (by with_reducible assumption) ?_); intro _ _ _ _)) | ((k_here; (with_reducible show wpAny _ _ (getMethod (Value.ref _) (PySem.Str.ofString "items") _) _ _ _); k_dflt (refine kdl_method (knd := PySem.strKind _ _) PySem.F.slot_dict_items PySem.F.type_dict_items (by with_reducible assumption) (by k_mem) (by with_reducible assumption) ?_))) | walk1) | (leave1; (try dsimp only)))
    rename Exists _ => hvw
    rename Fr _ _ _ _ => F3
    rename News _ _ _ _ => N3
    refine for_items (fun rem m₁ n₁ => ∃ o kD dn, n₁ = (d, o) :: news ∧ o.IsDictOf (PySem.strKind PySem.Challenge.rw_wy0045_01.row.prog w) kD ∧ CV kD (copyS [] dn) ∧ m₁ (Str.ofString "new_callers") = some (.ref d) ∧ m₁ (Str.ofString "source") = some (.ref dS) ∧
      kD.length + rem.length ≤ kT.length ∧ ∃ lr, CV rem lr ∧ dn ++ lr = lT) rfl F3 N3 hvw (.tail _ m1) hT ⟨o, [], [], rfl, dd, .nil, q1, q3, by simp, lT, vT, rfl⟩ ?_ ?_
    · clear F3 N3 q1 q2 q3 dd hvw F1 N1
      rintro I k x r m₁ n₁ oi h tk T t ⟨o, kD, dn, rfl, dd, cv, q1, q3, hl, lr, cr, el⟩ hI hm F1 N1 hT
      cases cr with | @cons _ nx tx _ lr cr =>
      have hl' : kD.length ≤ sizeLine := by rw [sizeLine_eq]; simp at hl; lia  
      have hdI : I ≠ d := fun e => hI (d, o) (.head _) e.symm
      repeat' (first | ((with_reducible show wpAny _ _ (setItem (Value.ref _) (Value.str _ _) _) _ _ _); (k_here; k_dflt (refine kda_set (knd := PySem.strKind _ _) (by with_reducible assumption) (by with_reducible assumption) (by k_updF) (by with_reducible assumption) (strKind_is _ _ _ _) (by assumption) ?_); intro _ _ _ Nq' _; (try dsimp only at Nq'))) | (k_unfold; (try dsimp only)) | (k_end; kc_close) | walk1 | (dsimp only; first | ((with_reducible show wpAny _ _ (setItem (Value.ref _) (Value.str _ _) _) _ _ _); (k_here; k_dflt (refine kda_set (knd := PySem.strKind _ _) (by with_reducible assumption) (by with_reducible assumption) (by k_updF) (by with_reducible assumption) (strKind_is _ _ _ _) (by assumption) ?_); intro _ _ _ Nq' _; (try dsimp only at Nq'))) | walk1) | (leave1; (try dsimp only)))
      rename Fr _ _ _ _ => F3
      rename News _ _ _ _ => N3
      rename Obj => o'
      refine TurnTo.mk F3 N3 (fun p hp => ?_) (fun p hp => ?_) ⟨_, _, dn ++ [(k, nx)], rfl, by assumption, ?_, q1, q3, ?_, lr, cr, by simp [← el]⟩
      · rcases List.mem_cons.mp hp with rfl | hp
        · exact hdI.symm
        · exact hI p (.tail _ hp)
      · rw [List.mem_singleton.mp hp]; exact .tail _ m1
      · unfold copyS; rw [List.foldl_append]; exact CV.put cv
      · have := PySem.stored_length_le kD k (.int nx tx)
        simp at hl; lia  
    · rintro m₁ n₁ h tk ⟨o, kD, dn, rfl, dd, cv, q1, q3, hl, lr, cr, el⟩ F1 N1
      cases cr
      simp at el hl
      subst el
      refine hQQ _ _ ?_
      exact Hold.mk ⟨rfl, fun PP kk => kk _ _ _ _ _ rfl F1 N1 dd cv hl q1 q3⟩
  clear F1 N1 q1 q2 q3 dd
  intro s' hPP
  refine hPP _ ?_
  clear hPP
  rintro h' tk m' o kD rfl F1 N1 dd cD hlD q1 q3
  refine exec_join (fun s' => ∀ PP : Prop, (∀ h' tk m' o kD, (s' = { s with heap := h', toks := tk }) → (Fr g' L' h' m') → (News g' L' h' ((d, o) :: news)) → (o.IsDictOf (PySem.strKind PySem.Challenge.rw_wy0045_01.row.prog w) kD) → (CV kD (addS lT lS)) → (m' (Str.ofString "new_callers") = some (.ref d)) → PP) → PP) ?_ ?_
  · refine opqQ ?_
    intro QQ hQQ
    refine For_turns F1 ?_
    repeat' (first | ((with_reducible show wpAny _ _ (PySem.call (Value.builtin "dict.items") _ _) _ _ _); (k_here; k_dflt (refine kta_callItems (knd := PySem.strKind _ _) (by with_reducible assumption) (by with_reducible assumption) (by k_mem) (by with_reducible assumption) (by with_reducible assumption) ?_); intro _ _ _ _)) | ((k_here; (with_reducible show wpAny _ _ (getMethod (Value.ref _) (PySem.Str.ofString "items") _) _ _ _); k_dflt (refine kdl_method (knd := PySem.strKind _ _) PySem.F.slot_dict_items PySem.F.type_dict_items (by with_reducible assumption) (by k_mem) (by with_reducible assumption) ?_))) | (k_unfold; (try dsimp only)) | (k_end; kc_close) | walk1 | (dsimp only; first | ((with_reducible show wpAny _ _ (PySem.call (Value.builtin "dict.items") _ _) _ _ _); (k_here; k_dflt (refine kta_callItems (knd := PySem.strKind _ _) (by with_reducible assumption) (by with_reducible assumption) (by k_mem) (by with_reducible assumption) (by with_reducible assumption) ?_); intro _ _ _ _)) | ((k_here; (with_reducible show wpAny _ _ (getMethod (Value.ref _) (PySem.Str.ofString "items") _) _ _ _); k_dflt (refine kdl_method (knd := PySem.strKind _ _) PySem.F.slot_dict_items PySem.F.type_dict_items (by with_reducible assumption) (by k_mem) (by with_reducible assumption) ?_))) | walk1) | (leave1; (try dsimp only)))
    rename Exists _ => hvw
    rename Fr _ _ _ _ => F3
    rename News _ _ _ _ => N3
    refine for_items (fun rem m₁ n₁ => ∃ o kD dn, n₁ = (d, o) :: news ∧ o.IsDictOf (PySem.strKind PySem.Challenge.rw_wy0045_01.row.prog w) kD ∧ CV kD (addS lT dn) ∧ m₁ (Str.ofString "new_callers") = some (.ref d) ∧
      kD.length + rem.length ≤ kT.length + kS.length ∧ ∃ lr, CV rem lr ∧ dn ++ lr = lS) rfl F3 N3 hvw (.tail _ m2) hS ⟨o, kD, [], rfl, dd, cD, q1, by lia  , lS, vS, rfl⟩ ?_ ?_
    · clear F3 N3 q1 q3 dd hvw F1 N1 cD hlD
      rintro I k x r m₁ n₁ oi h tk T t ⟨o, kD, dn, rfl, dd, cv, q1, hl, lr, cr, el⟩ hI hm F1 N1 hT
      cases cr with | @cons _ nx tx _ lr cr =>
      have hl' : kD.length ≤ sizeLine := by rw [sizeLine_eq]; simp at hl; lia  
      have hdI : I ≠ d := fun e => hI (d, o) (.head _) e.symm
      rcases cv.at (k := k) with ⟨nz, tz, va, ga⟩ | ⟨va, ga⟩
      · have vi : (valueAt kD k).isSome = true := by rw [va]; rfl
        repeat' (first | ((with_reducible show wpAny _ _ (setItem (Value.ref _) (Value.str _ _) _) _ _ _); (k_here; k_dflt (refine kda_set (knd := PySem.strKind _ _) (by with_reducible assumption) (by with_reducible assumption) (by k_updF) (by with_reducible assumption) (strKind_is _ _ _ _) (by assumption) ?_); intro _ _ _ Nq' _; (try dsimp only at Nq'))) | ((with_reducible show wpAny _ _ (compareOp CmpOp.In (Value.str _ _) (Value.ref _)) _ _ _); (k_here; k_dflt (refine kda_in (knd := PySem.strKind _ _) (by with_reducible assumption) (by k_mem) (by with_reducible assumption) (by with_reducible assumption) (strKind_is _ _ _ _) _ (by with_reducible assumption) ?_))) | ((with_reducible show wpAny _ _ (getItem (Value.ref _) (Value.str _ _)) _ _ _); (k_here; k_dflt (refine kdt_getItem (knd := PySem.strKind _ _) (by with_reducible assumption) (by k_mem) (by with_reducible assumption) (strKind_is _ _ _ _) (by with_reducible assumption) ?_))) | (k_unfold; (try dsimp only)) | (k_end; kc_close) | walk1 | (dsimp only; first | ((with_reducible show wpAny _ _ (setItem (Value.ref _) (Value.str _ _) _) _ _ _); (k_here; k_dflt (refine kda_set (knd := PySem.strKind _ _) (by with_reducible assumption) (by with_reducible assumption) (by k_updF) (by with_reducible assumption) (strKind_is _ _ _ _) (by assumption) ?_); intro _ _ _ Nq' _; (try dsimp only at Nq'))) | ((with_reducible show wpAny _ _ (compareOp CmpOp.In (Value.str _ _) (Value.ref _)) _ _ _); (k_here; k_dflt (refine kda_in (knd := PySem.strKind _ _) (by with_reducible assumption) (by k_mem) (by with_reducible assumption) (by with_reducible assumption) (strKind_is _ _ _ _) _ (by with_reducible assumption) ?_))) | ((with_reducible show wpAny _ _ (getItem (Value.ref _) (Value.str _ _)) _ _ _); (k_here; k_dflt (refine kdt_getItem (knd := PySem.strKind _ _) (by with_reducible assumption) (by k_mem) (by with_reducible assumption) (strKind_is _ _ _ _) (by with_reducible assumption) ?_))) | walk1) | (leave1; (try dsimp only)))
        rename Fr _ _ _ _ => F3
        rename News _ _ _ _ => N3
        refine TurnTo.mk F3 N3 (fun p hp => ?_) (fun p hp => ?_) ⟨_, _, dn ++ [(k, nx)], rfl, by assumption, ?_, q1, ?_, lr, cr, by simp [← el]⟩
        · rcases List.mem_cons.mp hp with rfl | hp
          · exact hdI.symm
          · exact hI p (.tail _ hp)
        · rw [List.mem_singleton.mp hp]; exact .tail _ m2
        · unfold addS; rw [List.foldl_append]
          show CV _ (addS1 (addS lT dn) (k, nx))
          unfold addS1; rw [ga]; exact CV.put cv
        · have := PySem.stored_length_le kD k (.int (nz + nx) 0)
          simp only [stored] at this ⊢
          split at this <;> rename_i hx <;> simp only [hx] <;> simp at hl this ⊢ <;> lia  
      · have vi : (valueAt kD k).isSome = false := by rw [va]; rfl
        repeat' (first | ((with_reducible show wpAny _ _ (setItem (Value.ref _) (Value.str _ _) _) _ _ _); (k_here; k_dflt (refine kda_set (knd := PySem.strKind _ _) (by with_reducible assumption) (by with_reducible assumption) (by k_updF) (by with_reducible assumption) (strKind_is _ _ _ _) (by assumption) ?_); intro _ _ _ Nq' _; (try dsimp only at Nq'))) | ((with_reducible show wpAny _ _ (compareOp CmpOp.In (Value.str _ _) (Value.ref _)) _ _ _); (k_here; k_dflt (refine kda_in (knd := PySem.strKind _ _) (by with_reducible assumption) (by k_mem) (by with_reducible assumption) (by with_reducible assumption) (strKind_is _ _ _ _) _ (by with_reducible assumption) ?_))) | (k_unfold; (try dsimp only)) | (k_end; kc_close) | walk1 | (dsimp only; first | ((with_reducible show wpAny _ _ (setItem (Value.ref _) (Value.str _ _) _) _ _ _); (k_here; k_dflt (refine kda_set (knd := PySem.strKind _ _) (by with_reducible assumption) (by with_reducible assumption) (by k_updF) (by with_reducible assumption) (strKind_is _ _ _ _) (by assumption) ?_); intro _ _ _ Nq' _; (try dsimp only at Nq'))) | ((with_reducible show wpAny _ _ (compareOp CmpOp.In (Value.str _ _) (Value.ref _)) _ _ _); (k_here; k_dflt (refine kda_in (knd := PySem.strKind _ _) (by with_reducible assumption) (by k_mem) (by with_reducible assumption) (by with_reducible assumption) (strKind_is _ _ _ _) _ (by with_reducible assumption) ?_))) | walk1) | (leave1; (try dsimp only)))
        rename Fr _ _ _ _ => F3
        rename News _ _ _ _ => N3
        refine TurnTo.mk F3 N3 (fun p hp => ?_) (fun p hp => ?_) ⟨_, _, dn ++ [(k, nx)], rfl, by assumption, ?_, q1, ?_, lr, cr, by simp [← el]⟩
        · rcases List.mem_cons.mp hp with rfl | hp
          · exact hdI.symm
          · exact hI p (.tail _ hp)
        · rw [List.mem_singleton.mp hp]; exact .tail _ m2
        · unfold addS; rw [List.foldl_append]
          show CV _ (addS1 (addS lT dn) (k, nx))
          unfold addS1; rw [ga]; exact CV.put cv
        · have := PySem.stored_length_le kD k (.int nx tx)
          simp at hl; lia  
    · rintro m₁ n₁ h tk ⟨o, kD, dn, rfl, dd, cv, q1, hl, lr, cr, el⟩ F1 N1
      cases cr
      simp at el hl
      subst el
      refine hQQ _ _ ?_
      exact Hold.mk ⟨rfl, fun PP kk => kk _ _ _ _ _ rfl F1 N1 dd cv q1⟩
  clear F1 N1 q1 q3 dd cD hlD
  intro s' hPP
  refine hPP _ ?_
  clear hPP
  rintro h' tk m' o kD rfl F1 N1 dd cD q1
  k_steps
  exact ret _ _ _ _ _ (by assumption) (by assumption) lt lo dd cD
end Mine

end
section -- W8
theorem Mine.off_W8 : True := by w_top off; trivial
open PySem PySem.W PyProof.Rows
set_option maxRecDepth 100000
namespace Mine
variable {w : World} {p : Program} {loose : List Str} {mean : ExcName → Option Value} {mg mb : Str → Option Value} {dp un : Nat} {gd : Option (List Code)} {cn : Str} {cs : Scope} {a : Addr} {ccd : Value} {cl : List (Str × Addr)} {outer : List Env} {A₀ : Around} {base h₀ : Heap} {L : Addr} {m : Str → Option Value} {news : List (Addr × Obj)} {s : Shared} {Q E : Value → Shared → Prop}
noncomputable abbrev KS (w : World) := PySem.strKind PySem.Challenge.rw_wy0045_01.row.prog w
set_option maxHeartbeats 8000000 in
theorem add_func_stats_c (B : Below A₀ base outer h₀) (F : Fr h₀ L s.heap m) (X : (hd.heap_1 w.params).In h₀) (N : News h₀ L s.heap news) (T : Top p loose mean mg mb h₀) (hk : cs.kind = .function) (hd : dp + 15 < recursionLimit) (hu : un + 80 < cLine)
  {pT pS dT dS : Addr} {oT oS : Obj} {kT kS : List (Str × Value)} {lT lS : List (Str × Int)} {a1 a2 a3 a4 b1 b2 b3 b4 : Int} {t1 t2 t3 t4 u1 u2 u3 u4 : Tok} (loT : (dT == sysModules) = false) (loS : (dS == sysModules) = false) (m1 : (dT, oT) ∈ news) (m2 : (dS, oS) ∈ news)
  (m3 : (pT, tupO [.int a1 t1, .int a2 t2, .int a3 t3, .int a4 t4, .ref dT]) ∈ news) (m4 : (pS, tupO [.int b1 u1, .int b2 u2, .int b3 u3, .int b4 u4, .ref dS]) ∈ news)
  (hT : oT.IsDictOf (PySem.strKind PySem.Challenge.rw_wy0045_01.row.prog w) kT) (hS : oS.IsDictOf (PySem.strKind PySem.Challenge.rw_wy0045_01.row.prog w) kS)
  (vT : CV kT lT) (vS : CV kS lS) (hsz : kT.length + kS.length ≤ 1000)
  (ret : ∀ r D o kR w1 w2 w3 w4 h' tk', Fr h₀ L h' m → News h₀ L h' ((r, tupO [.int (b1 + a1) w1, .int (b2 + a2) w2, .int (b3 + a3) w3, .int (b4 + a4) w4, .ref D]) :: (D, o) :: news) → (∀ p ∈ news, p.1 < D) → D < r → (D == sysModules) = false → o.IsDictOf (PySem.strKind PySem.Challenge.rw_wy0045_01.row.prog w) kR → CV kR (addS lT lS) → Q (.ref r) {s with heap := h', toks := tk'}) :
  wpAny (model PySem.Challenge.rw_wy0045_01.row.prog w) (ktrTop dp un gd cn cs L a ccd cl outer) (call (.ref 73) [.ref pT, .ref pS]) Q E s := by
  refine wpAny_call ?_
  k_dflt ktr_enter
  rename_i g' L' h1' FG' F' N' B' X' T'
  repeat' (first | ((with_reducible show wpAny _ _ (PySem.call (Value.ref _) _ _) _ _ _); (k_here; (with_reducible show wpAny _ _ (call (Value.ref 80) _) _ _ _); k_dflt (refine add_callers_c (by k_asm) (by with_reducible assumption) (by k_asm) (by with_reducible assumption) (by k_asm) rfl (by first | exact rmN (k := 6) hd rfl | exact rmN (k := 11) hd rfl | exact rmN (k := 16) hd rfl | exact rmN (k := 21) hd rfl | exact rmN (k := 26) hd rfl | ((try dsimp only [ktrTop]); omega)) (by first | exact rmN (k := 43) hu rfl | exact rmN (k := 83) hu rfl | exact rmN (k := 123) hu rfl | exact rmN (k := 163) hu rfl | ((try dsimp only [ktrTop]); omega)) (by assumption) (by assumption) (by k_mem) (by k_mem) (by with_reducible assumption) (by with_reducible assumption) (by with_reducible assumption) (by with_reducible assumption) (by omega) ?_); intro _ _ _ _ _ _ _ _ _ _ _)) | (k_unfold; (try dsimp only)) | (k_end; kc_close) | walk1 | (dsimp only; first | ((with_reducible show wpAny _ _ (PySem.call (Value.ref _) _ _) _ _ _); (k_here; (with_reducible show wpAny _ _ (call (Value.ref 80) _) _ _ _); k_dflt (refine add_callers_c (by k_asm) (by with_reducible assumption) (by k_asm) (by with_reducible assumption) (by k_asm) rfl (by first | exact rmN (k := 6) hd rfl | exact rmN (k := 11) hd rfl | exact rmN (k := 16) hd rfl | exact rmN (k := 21) hd rfl | exact rmN (k := 26) hd rfl | ((try dsimp only [ktrTop]); omega)) (by first | exact rmN (k := 43) hu rfl | exact rmN (k := 83) hu rfl | exact rmN (k := 123) hu rfl | exact rmN (k := 163) hu rfl | ((try dsimp only [ktrTop]); omega)) (by assumption) (by assumption) (by k_mem) (by k_mem) (by with_reducible assumption) (by with_reducible assumption) (by with_reducible assumption) (by with_reducible assumption) (by omega) ?_); intro _ _ _ _ _ _ _ _ _ _ _)) | walk1) | (leave1; (try dsimp only)))
  rename _ ∧ _ => l1
  exact ret _ _ _ _ _ _ _ _ _ _ (by assumption) (by assumption) (by assumption) l1.1 (by assumption) (by assumption) (by assumption)
end Mine

end
section -- P3
open PySem PySem.W PyProof.Rows
set_option maxRecDepth 100000
namespace Mine
open PySem.F
theorem plainAttrs_pat : PlainAttrs "re.Pattern" :=
  ⟨⟨"object.__getattribute__", by rw [typeLookup_type, builtinLookup_eq_fast]; kernel_rfl, by decide +kernel⟩, by rw [typeLookup_type, builtinLookup_eq_fast]; kernel_rfl⟩
theorem slot_search : Slot "re.Pattern" "search" "re.Pattern.search" :=
  .of (owner := "re.Pattern") (n := "search") (by rw [typeLookup_type, builtinLookup_eq_fast]; kernel_rfl) (by decide +kernel) (by decide +kernel) (by decide +kernel)
    (by first | exact .inl (by decide +kernel) | exact .inr (by decide +kernel)) (by rw [isSubtype_type]; kernel_rfl)
theorem type_search : typeOf (.builtin "re.Pattern.search") = pure (.type "method_descriptor") := by show builtinType _ = _; rw [builtinType_eq_fast]; kernel_rfl
theorem entry_search : entryFor table "re.Pattern.search" = some Builtin.«re.Pattern.search» := entryFor_of_tree (by kernel_rfl)
theorem args_search (a b : Value) : argsOk "re.Pattern.search" ⟨[a, b], []⟩ := by
  unfold argsOk; kernel_rfl
end Mine
namespace Mine
open PySem.Builtin.Re
section
variable {prog : Program} {w : World} {A : Around} {E : Value → Shared → Prop} {s : Shared}
theorem wpAny_rule' {t : String} {Q : Unit → Shared → Prop} (h : Q () s) : wpAny (model prog w) A (rule t) Q E s := fun _ _ _ => h
theorem run_failed (m : Sre.M) (ho : m.outcome = none) (ha : m.answer = some false) (hf : m.frames = []) {Q : Option Sre.M → Shared → Prop} (h : Q none s) :
    wpAny (model prog w) A (reRunToEnd m) Q E s := by
  unfold reRunToEnd
  have e1 : m.runFor reTurnSteps = { m with outcome := some .failed } := by
    unfold reTurnSteps
    simp [Sre.M.runFor, Sre.M.step, ho, ha, hf]
  have e2 : reDrive (2 ^ 64) m = pure { m with outcome := some .failed } := by
    show reDrive (18446744073709551615 + 1) m = _
    unfold reDrive
    rw [e1]; rfl
  rw [e2]
  refine wpAny_bind (wpAny_pure (wpAny_bind (wpAny_forIn_list _ (fun _ _ s' => s' = s) _ (fun x rest b s' e => ?_) (fun b s' e => ?_) _ _ rfl)))
  · subst e
    split
    · exact wpAny_bind (wpAny_rule' (wpAny_pure rfl))
    · exact wpAny_pure rfl
  · subst e
    exact wpAny_pure h
end
end Mine
namespace Mine
open PySem.Builtin.Re
noncomputable def NoHit (code : Array Nat) (text : Array Nat) : Prop := ∀ c ∈ text.toList, ∀ seen, ∃ seen', Sre.inSet code c code.size 5 true seen = .ok (false, seen')
theorem admitted_none {code : Array Nat} {m : Sre.M} (hc : m.code = code) (hl : m.lim = m.text.size) (h : NoHit code m.text) : ∀ (fuel s : Nat) (seen : Sre.Seen), ∃ seen', Sre.M.admitted m fuel s seen = .ok (none, seen')
  | 0, _, seen => ⟨seen, rfl⟩
  | fuel + 1, s, seen => by
    unfold Sre.M.admitted
    by_cases hs : s ≥ m.lim
    · rw [if_pos hs]; exact ⟨seen, rfl⟩
    · rw [if_neg hs]
      have hs' : s < m.text.size := by lia  
      have hm : m.text.getD s 0 ∈ m.text.toList := by
        simp [hs']
      obtain ⟨seen', e⟩ := h _ hm seen
      subst hc
      rw [e]
      exact admitted_none rfl hl h fuel (s + 1) seen'
theorem attempt_fails {m : Sre.M} (hfs : m.hasFirstSet = true) (ml : m.lim = m.text.size) (h : NoHit m.code m.text) (mo : m.outcome = none) (mf : m.frames = []) :
    (m.attemptFrom 0 true).outcome = none ∧ (m.attemptFrom 0 true).answer = some false ∧ (m.attemptFrom 0 true).frames = [] := by
  unfold Sre.M.attemptFrom
  obtain ⟨seen', e⟩ := admitted_none rfl ml h (m.lim + 1 - 0) 0 m.seen
  simp only [hfs, Bool.not_true, Bool.false_eq_true, if_false, e]
  exact ⟨mo, rfl, mf⟩
theorem search_fails {code text : Array Nat} {groups : Nat} (hfs : ∀ m : Sre.M, m.code = code → m.hasFirstSet = true) (h : NoHit code text) :
    (Sre.forSearch code text groups 0 text.size false).outcome = none ∧ (Sre.forSearch code text groups 0 text.size false).answer = some false ∧ (Sre.forSearch code text groups 0 text.size false).frames = [] := by
  unfold Sre.forSearch
  dsimp only
  split
  · exact ⟨rfl, rfl, rfl⟩
  · exact attempt_fails (hfs _ rfl) rfl h rfl rfl
noncomputable def nameCode : Array Nat := #[14, 10, 4, 1, 1, 22, 0, 31, 16, 127, 0, 13, 7, 22, 0, 31, 16, 127, 0, 1]
noncomputable def valueCode : Array Nat := #[14, 14, 4, 1, 1, 9, 4294966783, 0, 0, 2147483648, 0, 0, 0, 0, 0, 13, 11, 9, 4294966783, 0, 0, 2147483648, 0, 0, 0, 0, 0, 1]
/-- a sign that a header may bear: printable ASCII -/
noncomputable def okSign (c : Nat) : Bool := 32 ≤ c && c ≤ 126
noncomputable def OkText (x : Str) : Prop := ∀ c ∈ x.cps.toList, 32 ≤ c ∧ c ≤ 126
theorem name_nohit {x : Str} (h : OkText x) : NoHit nameCode x.cps := by
  intro c hc seen
  obtain ⟨h1, h2⟩ := h c hc
  have e1 : ¬ ((decide (0 ≤ c) && decide (c ≤ 31)) = true) := by simp; lia  
  have e2 : ¬ ((c == 127) = true) := by simp; lia  
  refine ⟨((seen.add 22).add 16).add 0, ?_⟩
  refine Eq.trans (b := if (decide (0 ≤ c) && decide (c ≤ 31)) = true then .ok (true, seen.add 22) else Sre.inSet nameCode c 19 8 true (seen.add 22)) rfl ?_
  rw [if_neg e1]
  refine Eq.trans (b := if (c == 127) = true then .ok (true, (seen.add 22).add 16) else Sre.inSet nameCode c 18 10 true ((seen.add 22).add 16)) rfl ?_
  rw [if_neg e2]
  rfl
theorem name_first (m : Sre.M) (e : m.code = nameCode) : m.hasFirstSet = true := by unfold Sre.M.hasFirstSet; rw [e]; rfl
theorem value_first (m : Sre.M) (e : m.code = valueCode) : m.hasFirstSet = true := by unfold Sre.M.hasFirstSet; rw [e]; rfl
theorem value_bits : ∀ c : Nat, c < 127 → 32 ≤ c → (decide (c < 256) && (valueCode.getD (5 + (1 + c / 32)) 0).testBit (c % 32)) = false := by decide +kernel
theorem value_nohit {x : Str} (h : OkText x) : NoHit valueCode x.cps := by
  intro c hc seen
  obtain ⟨h1, h2⟩ := h c hc
  have e1 : ¬ ((decide (c < 256) && (valueCode.getD (5 + (1 + c / 32)) 0).testBit (c % 32)) = true) := by rw [value_bits c (by lia  ) h1]; exact Bool.false_ne_true
  refine ⟨(seen.add 9).add 0, ?_⟩
  refine Eq.trans (b := if (decide (c < 256) && (valueCode.getD (5 + (1 + c / 32)) 0).testBit (c % 32)) = true then .ok (true, seen.add 9) else Sre.inSet valueCode c 27 14 true (seen.add 9)) rfl ?_
  rw [if_neg e1]
  rfl
end Mine

end
section -- P4
open PySem PySem.W PyProof.Rows
set_option maxRecDepth 100000
namespace Mine
open PySem.F PySem.Builtin.Re
section
variable {prog : Program} {w : World} {A : Around} {E : Value → Shared → Prop} {s : Shared}
theorem named_search (id f : String) (x : Str) (t : Tok) : reNamed id f ["string", "pos", "endpos"] 1 [.str x t] [] = pure [some (.str x t), none, none] := rfl
theorem call_search {p T : Addr} {fs ws : Array Value} {k n : Nat} {code : Array Nat} {x : Str} {t : Tok} {Q : Value → Shared → Prop} {o oT : Obj} (hp : s.heap.get? p = some o) (ho : o.cls = .type "re.Pattern") (hd : o.data = .fields fs) (h2 : reRawNat (fs.getD 2 .none) = k) (h6 : reRawNat (fs.getD 6 .none) = 0) (h5 : fs.getD 5 .none = .ref T)
    (hT : s.heap.get? T = some oT) (hTd : oT.data = .seq ws n) (hc : (ws.map reRawOf).map (·.toNat) = code) (hfs : ∀ m : Sre.M, m.code = code → m.hasFirstSet = true) (hx : NoHit code x.cps) (h : Q .none s) (hsz : x.cps.size < 2 ^ 63 - 1) :
    wpAny (model prog w) A (call (.builtin "re.Pattern.search") [.ref p, .str x t]) Q E s := by
  refine wpAny_call_entry (T := "re.Pattern") slot_search ⟨o, hp, ho⟩ entry_search ?_ (args_search _ _)
  unfold Builtin.«re.Pattern.search»
  refine wpAny_bind ?_
  unfold reTarget
  dsimp only
  rw [named_search]
  refine wpAny_bind (wpAny_pure ?_)
  dsimp only
  refine wpAny_bind (wpAny_pure ?_)
  refine wpAny_bind (wpAny_pure ?_)
  refine wpAny_bind (wpAny_fieldsOf hp hd ?_)
  have e1 : reTextOf (.str x t) = pure (x.cps, 0) := rfl
  rw [e1]
  refine wpAny_bind (wpAny_pure ?_)
  dsimp only
  rw [h6]
  refine wpAny_ite ?_
  rw [if_neg (by decide)]
  refine wpAny_ite ?_
  rw [if_neg (by decide)]
  have e2 : reNoCollectionInside (.str x t) 0 = pure () := rfl
  rw [e2]
  refine wpAny_bind (wpAny_pure ?_)
  rw [h5]
  refine wpAny_bind ?_
  unfold reRawItems
  refine wpAny_bind (wpAny_seqItems hT hTd (wpAny_pure ?_))
  refine wpAny_pure ?_
  dsimp only [Option.getD]
  rw [hc]
  have e3 : min (Int.toNat 0) x.cps.size = 0 := by simp
  have e4 : min ((2 : Int) ^ 63 - 1).toNat x.cps.size = x.cps.size := by
    have : ((2 : Int) ^ 63 - 1).toNat = 9223372036854775807 := by decide
    rw [this]; lia  
  rw [e3, e4]
  obtain ⟨f1, f2, f3⟩ := search_fails (groups := reRawNat (fs.getD 2 .none)) hfs hx
  unfold reAnswer
  refine wpAny_bind (run_failed _ f1 f2 f3 ?_)
  exact wpAny_pure ⟨_, rfl, h⟩
theorem meth_search {p : Addr} {o : Obj} {pl : Sem Bool} {Q : Value × List Value → Shared → Prop} (hp : s.heap.get? p = some o) (ho : o.cls = .type "re.Pattern") (hdc : o.dict = none) (h : Q (.builtin "re.Pattern.search", [.ref p]) s) :
    wpAny (model prog w) A (getMethod (.ref p) "search" pl) Q E s :=
  getMethod_builtin (T := "re.Pattern") ⟨o, hp, ho⟩ plainAttrs_pat slot_search type_search (fun a e => by cases e; exact ⟨o, hp, hdc⟩) h
theorem okText_size {x : Str} (h : OkText x) : OkText x := h
end
end Mine

end
section -- P5
open PySem PySem.W PyProof.Rows
set_option maxRecDepth 100000
namespace Mine
/-- pairs of texts, each a tuple of the ledger -/
inductive PL (n : List (Addr × Obj)) : List Value → List (Str × Str) → Prop
  | nil : PL n [] []
  | cons {t : Addr} {k v : Str} {tk tv : Tok} {r : List Value} {l : List (Str × Str)} (h : (t, tupO [.str k tk, .str v tv]) ∈ n) (hr : PL n r l) : PL n (.ref t :: r) ((k, v) :: l)
theorem PL.mono {n n' : List (Addr × Obj)} {vs : List Value} {l : List (Str × Str)} (h : PL n vs l) (k : ∀ p ∈ n, p ∈ n') : PL n' vs l := by
  induction h with
  | nil => exact .nil
  | cons h _ ih => exact .cons (k _ h) ih
theorem PL.append {n : List (Addr × Obj)} {vs us : List Value} {l r : List (Str × Str)} (h : PL n vs l) (h' : PL n us r) : PL n (vs ++ us) (l ++ r) := by
  induction h with
  | nil => exact h'
  | cons h _ ih => exact .cons h ih
theorem PL.len {n : List (Addr × Obj)} {vs : List Value} {l : List (Str × Str)} (h : PL n vs l) : vs.length = l.length := by
  induction h with
  | nil => rfl
  | cons _ _ ih => simp [ih]
/-- texts that Headers take -/
noncomputable def OkS (x : Str) : Prop := OkText x ∧ x.cps.size < 1000000
noncomputable def OkP (l : List (Str × Str)) : Prop := ∀ p ∈ l, OkS p.1 ∧ OkS p.2
theorem OkP.head {x : Str × Str} {l : List (Str × Str)} (h : OkP (x :: l)) : OkS x.1 ∧ OkS x.2 := h x (.head _)
theorem OkP.tail {x : Str × Str} {l : List (Str × Str)} (h : OkP (x :: l)) : OkP l := fun p hp => h p (.tail _ hp)
/-- the fields of a Headers -/
noncomputable abbrev hdD (w : World) (l : Addr) (t : Tok) : Obj := dictOf [{ hash := PyData.keyHash w.params (Str.ofString "_headers"), key := .str (Str.ofString "_headers") t, val := .ref l }] 1
theorem under_make_top {dp un : Nat} {gd : Option (List Code)} {cn : Str} {cs : Scope} {L a C : Addr} {ccd : Value} {cl : List (Str × Addr)} {outer : List Env} {vals : List Value} :
    (ktrTop dp un gd cn cs L a ccd cl outer).under (.builtin "type.__call__" ⟨.ref C :: vals, []⟩) = ktrTop (dp + 1) (un + 1) gd cn cs L a ccd cl outer := by
  cases gd <;> rfl
end Mine

end
section -- P6
open PySem PySem.W PyProof.Rows
set_option maxRecDepth 100000
namespace Mine
theorem setGen_toks (s : Shared) (g : Nat) (x : GenState) : (s.setGen g x).toks = s.toks := rfl
theorem runs_toks {M : Model} {Γ : Ctx} {p : Pos} {t : Sem Fin} {fs : List Frame} {s s' : Shared} {e : End} (h : Runs M Γ p t fs s e s') : s.toks ≤ s'.toks := by
  induction h <;> first | exact Nat.le_refl _ | assumption | ((try simp only [setGen_toks] at *); (try dsimp only at *); lia  )
theorem wakes_toks {M : Model} {Γ : Ctx} {p : Pos} {g : Nat} {r : Resume} {s s' : Shared} {res : GenResult} (h : Wakes M Γ p g r s res s') : s.toks ≤ s'.toks := by
  unfold Wakes at h
  split at h
  · exact h.elim
  · split at h
    · obtain ⟨e₁, s₁, h1, _, _, rfl⟩ := h
      have := runs_toks h1
      simpa only [setGen_toks] using this
    · obtain ⟨_, rfl⟩ := h; exact Nat.le_refl _
    · obtain ⟨_, rfl⟩ := h; exact Nat.le_refl _
  · obtain ⟨e₁, s₁, h1, _, _, rfl⟩ := h
    have := runs_toks h1
    simpa only [setGen_toks] using this
  · obtain ⟨_, rfl⟩ := h; exact Nat.le_refl _
  · obtain ⟨_, rfl⟩ := h; exact Nat.le_refl _
theorem wp_toks {α : Type} {M : Model} {Γ : Ctx} {n : Nat} (t : Sem α) : ∀ {Q : α → Pos → Shared → Prop} {E : Value → Pos → Shared → Prop} {p : Pos} {s : Shared}, n ≤ s.toks →
    t.wp M Γ Q E p s → t.wp M Γ (fun a p' s' => n ≤ s'.toks ∧ Q a p' s') (fun e p' s' => n ≤ s'.toks ∧ E e p' s') p s := by
  induction t <;> intro Q E p s hn h
  case pure => rw [Sem.wp] at *; exact ⟨hn, h⟩
  case raise => rw [Sem.wp] at *; exact ⟨hn, h⟩
  case unsupported => rw [Sem.wp] at *; exact h
  case finish => rw [Sem.wp] at *; exact h
  case rule k ih => rw [Sem.wp] at *; exact ih _ hn h
  case «at» k ih => rw [Sem.wp] at *; exact ih _ hn h
  case load k ih => rw [Sem.wp] at *; obtain ⟨o, h1, h2⟩ := h; exact ⟨o, h1, ih _ hn h2⟩
  case update k ih => rw [Sem.wp] at *; exact ⟨h.1, ih _ hn h.2⟩
  case loadIfAlive k ih => rw [Sem.wp] at *; exact ih _ hn h
  case point k ih => rw [Sem.wp] at *; exact ih _ hn h
  case register => rw [Sem.wp] at *; exact h
  case alloc k ih => rw [Sem.wp] at *; exact ih _ hn h
  case fresh k ih => rw [Sem.wp] at *; exact ih _ (Nat.le_succ_of_le hn) h
  case ask k ih => rw [Sem.wp] at *; exact ih _ hn h
  case choose k ih => rw [Sem.wp] at *; exact ⟨h.1, ih _ hn h.2⟩
  case os k ih => rw [Sem.wp] at *; exact ih _ hn h
  case call k ih =>
    rw [Sem.wp] at *
    obtain ⟨r, s', h1, h2⟩ := h
    exact ⟨r, s', h1, ih _ (Nat.le_trans hn (runs_toks h1)) h2⟩
  case handled k ih => rw [Sem.wp] at *; exact ih _ hn h
  case genState k ih => rw [Sem.wp] at *; obtain ⟨o, h1, h2⟩ := h; exact ⟨o, h1, ih _ hn h2⟩
  case newGen k ih => rw [Sem.wp] at *; exact ih _ hn h
  case resume k ih => rw [Sem.wp] at *; obtain ⟨o, s', h1, h2⟩ := h; exact ⟨o, s', h1, ih _ (Nat.le_trans hn (wakes_toks h1)) h2⟩
  case yield => rw [Sem.wp] at *; exact h
  case stack k ih => rw [Sem.wp] at *; exact ih _ hn h
  case fork => rw [Sem.wp] at *; exact h
  case thread k ih => rw [Sem.wp] at *; exact ih _ hn h
  case await => rw [Sem.wp] at *; exact h
/-- the tokens only grow: what a tree leaves may be read with that -/
theorem wpAny_toks {α : Type} {M : Model} {A : Around} {t : Sem α} {Q : α → Shared → Prop} {E : Value → Shared → Prop} {s : Shared} (n : Nat) (hn : n ≤ s.toks)
    (h : wpAny M A t (fun a s' => n ≤ s'.toks → Q a s') (fun e s' => n ≤ s'.toks → E e s') s) : wpAny M A t Q E s := fun Γ p hΓ =>
  Sem.wp_mono M Γ t (fun _ _ _ h => h.2 h.1) (fun _ _ _ h => h.2 h.1) p s (wp_toks t hn (h Γ p hΓ))
section
variable {M : Model} {A : Around} {E : Value → Shared → Prop} {s : Shared} {env : Env} {st : Stmt} {rest : List Stmt} {Q : Flow → Shared → Prop}
theorem exec_splitT {l : List Stmt} (k : Nat) (R : Shared → Prop) (h0 : 0 < s.toks)
    (h1 : wpAny M A (execs (l.take k) env) (fun f s' => Hold (f = .next ∧ R s')) E s) (h2 : ∀ s', R s' → 0 < s'.toks → wpAny M A (execs (l.drop k) env) Q E s') : wpAny M A (execs l env) Q E s :=
  exec_split k (fun s' => R s' ∧ 0 < s'.toks) (wpAny_toks 1 h0 (wpAny_mono h1 (fun _ _ h ht => Hold.mk ⟨h.out.1, h.out.2, ht⟩) fun _ _ e _ => e)) fun s' h => h2 s' h.1 h.2
end
end Mine

end
section -- W9
theorem Mine.off_W9 : True := by w_top off; trivial
open PySem PySem.W PyProof.Rows
set_option maxRecDepth 100000
namespace Mine
variable {w : World} {p : Program} {loose : List Str} {mean : ExcName → Option Value} {mg mb : Str → Option Value} {dp un : Nat} {gd : Option (List Code)} {cn : Str} {cs : Scope} {a : Addr} {ccd : Value} {cl : List (Str × Addr)} {outer : List Env} {A₀ : Around} {base h₀ : Heap} {L : Addr} {m : Str → Option Value} {news : List (Addr × Obj)} {s : Shared} {Q E : Value → Shared → Prop}
set_option maxHeartbeats 8000000 in
theorem convert_c (B : Below A₀ base outer h₀) (F : Fr h₀ L s.heap m) (X : (hd.heap_1 w.params).In h₀) (N : News h₀ L s.heap news) (T : Top p loose mean mg mb h₀) (hk : cs.kind = .function) (hd : dp + 5 < recursionLimit) (hu : un + 40 < cLine)
  {x : Addr} {v : Str} {t : Tok} {b : Bool} (hs : OkS v)
  (ret : ∀ h' tk', 0 < tk' → Fr h₀ L h' m → News h₀ L h' news → Q (.str v t) {s with heap := h', toks := tk'}) :
  wpAny (model PySem.Challenge.rw_wy0045_01.row.prog w) (ktrTop dp un gd cn cs L a ccd cl outer) (call (.ref 175) [.ref x, .str v t] [(Str.ofString "name", .bool b)]) Q E s := by
  obtain ⟨hv, hsz⟩ := hs
  refine wpAny_call ?_
  k_dflt ktr_enter
  rename_i g' L' h1' FG' F' N' B' X' T'
  refine wpAny_toks 1 (Nat.le_add_left _ _) ?_
  repeat' (first | ((k_here; (with_reducible show wpAny _ _ (getMethod (Value.ref _) (PySem.Str.ofString "search") _) _ _ _); k_dflt (refine meth_search (Frag.In.keeps (by k_asm) (Fr.keep (by with_reducible assumption)) _ _ (by k_is)) rfl rfl ?_))) | (k_unfold; (try dsimp only)) | (k_end; kc_close) | walk1 | (dsimp only; first | ((k_here; (with_reducible show wpAny _ _ (getMethod (Value.ref _) (PySem.Str.ofString "search") _) _ _ _); k_dflt (refine meth_search (Frag.In.keeps (by k_asm) (Fr.keep (by with_reducible assumption)) _ _ (by k_is)) rfl rfl ?_))) | walk1) | (leave1; (try dsimp only)))
  · rename Fr _ _ _ _ => F3
    refine call_search (code := nameCode) (Frag.In.keeps X' (Fr.keep F3) _ _ (by k_is)) rfl rfl rfl rfl rfl (Frag.In.keeps X' (Fr.keep F3) _ _ (by k_is)) rfl (by first | decide +kernel | (simp [PySem.Builtin.Re.reRawOf]; rfl)) name_first (name_nohit hv) ?_ (by omega)
    k_steps
    rename Fr _ _ _ _ => F4
    rename News _ _ _ _ => N4
    exact ret _ _ (by assumption) F4 N4
  · rename Fr _ _ _ _ => F3
    refine call_search (code := valueCode) (Frag.In.keeps X' (Fr.keep F3) _ _ (by k_is)) rfl rfl rfl rfl rfl (Frag.In.keeps X' (Fr.keep F3) _ _ (by k_is)) rfl (by first | decide +kernel | (simp [PySem.Builtin.Re.reRawOf]; rfl)) value_first (value_nohit hv) ?_ (by omega)
    k_steps
    rename Fr _ _ _ _ => F4
    rename News _ _ _ _ => N4
    exact ret _ _ (by assumption) F4 N4
end Mine

end
section -- W10
theorem Mine.off_W10 : True := by w_top off; trivial
open PySem PySem.W PyProof.Rows
set_option maxRecDepth 100000
namespace Mine
variable {w : World} {p : Program} {loose : List Str} {mean : ExcName → Option Value} {mg mb : Str → Option Value} {dp un : Nat} {gd : Option (List Code)} {cn : Str} {cs : Scope} {a : Addr} {ccd : Value} {cl : List (Str × Addr)} {outer : List Env} {A₀ : Around} {base h₀ : Heap} {L : Addr} {m : Str → Option Value} {news : List (Addr × Obj)} {s : Shared} {Q E : Value → Shared → Prop}
set_option maxHeartbeats 8000000 in
theorem headers0_c (B : Below A₀ base outer h₀) (F : Fr h₀ L s.heap m) (X : (hd.heap_1 w.params).In h₀) (N : News h₀ L s.heap news) (T : Top p loose mean mg mb h₀) (hk : cs.kind = .function) (hd : dp + 15 < recursionLimit) (hu : un + 120 < cLine)
  (ret : ∀ H D l t h' tk', Fr h₀ L h' m → News h₀ L h' ((l, lstO [] 0) :: (H, instObj 276 D) :: (D, hdD w l t) :: news) → (∀ p ∈ news, p.1 < D) → D < H → H < l → Q (.ref H) {s with heap := h', toks := tk'}) :
  wpAny (model PySem.Challenge.rw_wy0045_01.row.prog w) (ktrTop dp un gd cn cs L a ccd cl outer) (call (.ref 276) []) Q E s := by
  refine' call_cls F X N ?k4 ?k5 ?k6 ?_
  case k4 => k_is
  case k5 => k_is
  case k6 => k_is
  intro x' d' h' F' N' l1 l2
  clear F N
  k_lt2 l2
  rw [under_make_top]
  k_dflt (refine' code_def ?k1 ?k2 ?k3 ?k4 ?k5 ?kA ?kF ?kK ?k6 ?k7 ?k8 ?k9 ?kB ?_ ?c2 ?c3 ?c4 ?c5; (case kA => exact rfl); (case kF => exact rfl); (case kK => first | assumption | exact rfl); (case k1 => k_asm); (case k2 => k_asm); (case k3 => k_asm); (case k4 => k_asm); (case k5 => k_asm); (case k6 => k_is); (case k7 => k_is); (case k8 => ktr_room); (case k9 => first | exact BindsTo.of_eq rfl | exact binds_K (by k_in) rfl (by k_is) rfl rfl rfl); (case c5 => decide); (case kB => exact locs rfl); (case c2 => exact rfl); (case c3 => exact rfl); (case c4 => exact rfl); k_whole; intro g' L' h1' FG' F1 N1 B' X' T'; (try dsimp only); (try k_fold))
  clear F' N'
  refine exec_split 3 (fun s' => ∀ PP : Prop, (∀ h' tk m' l t, (s' = { s with heap := h', toks := tk }) → (Fr g' L' h' m') → (News g' L' h' ((l, lstO [] 0) :: (x', instObj 276 d') :: (d', hdD w l t) :: news)) → (x' < l) → (m' (Str.ofString "headers") = some (.ref l)) → PP) → PP) ?_ ?_
  · refine opq ?_
    intro QQ EE hQQ
    dsimp only [List.take]
    k_steps
    rename Fr _ _ _ _ => F3
    rename News _ _ _ _ => N3
    rename _ ∧ _ => l3
    refine hQQ _ _ ?_
    exact Hold.mk ⟨rfl, fun PP kk => kk _ _ _ _ _ rfl F3 N3 l3.1 rfl⟩
  clear F1 N1
  dsimp only [List.drop]
  intro s' hPP
  refine hPP _ ?_
  clear hPP
  rintro h' tk m' l t rfl F1 N1 l3 q1
  k_steps
  refine For_turns F1 ?_
  k_steps
  refine for_list (fun rem m₁ n₁ => rem = [] ∧ n₁ = ((l, lstO [] 0) :: (x', instObj 276 d') :: (d', hdD w l t) :: news)) rfl F1 N1 (.head _) rfl rfl ⟨rfl, rfl⟩ ?_ ?_
  · rintro I v r m₁ n₁ o h tk ⟨e, _⟩
    cases e
  rintro m₁ n₁ h tk ⟨_, rfl⟩ F3 N3
  k_steps
  exact ret _ _ _ _ _ _ (by assumption) (by assumption) l1 l2 l3
set_option maxHeartbeats 8000000 in
theorem headers1_c (B : Below A₀ base outer h₀) (F : Fr h₀ L s.heap m) (X : (hd.heap_1 w.params).In h₀) (N : News h₀ L s.heap news) (T : Top p loose mean mg mb h₀) (hk : cs.kind = .function) (hd : dp + 15 < recursionLimit) (hu : un + 120 < cLine)
  {l : Addr} {vs : List Value} {ep : Nat} {ps : List (Str × Str)} (ml : (l, lstO vs ep) ∈ news) (hp : PL news vs ps) (ho : OkP ps)
  (ret : ∀ H D t h' tk', Fr h₀ L h' m → News h₀ L h' ((H, instObj 276 D) :: (D, hdD w l t) :: news) → (∀ p ∈ news, p.1 < D) → D < H → Q (.ref H) {s with heap := h', toks := tk'}) :
  wpAny (model PySem.Challenge.rw_wy0045_01.row.prog w) (ktrTop dp un gd cn cs L a ccd cl outer) (call (.ref 276) [.ref l]) Q E s := by
  refine' call_cls F X N ?k4 ?k5 ?k6 ?_
  case k4 => k_is
  case k5 => k_is
  case k6 => k_is
  intro x' d' h' F' N' l1 l2
  clear F N
  k_lt2 l2
  rw [under_make_top]
  k_dflt (refine' code_def ?k1 ?k2 ?k3 ?k4 ?k5 ?kA ?kF ?kK ?k6 ?k7 ?k8 ?k9 ?kB ?_ ?c2 ?c3 ?c4 ?c5; (case kA => exact rfl); (case kF => exact rfl); (case kK => first | assumption | exact rfl); (case k1 => k_asm); (case k2 => k_asm); (case k3 => k_asm); (case k4 => k_asm); (case k5 => k_asm); (case k6 => k_is); (case k7 => k_is); (case k8 => ktr_room); (case k9 => first | exact BindsTo.of_eq rfl | exact binds_K (by k_in) rfl (by k_is) rfl rfl rfl); (case c5 => decide); (case kB => exact locs rfl); (case c2 => exact rfl); (case c3 => exact rfl); (case c4 => exact rfl); k_whole; intro g' L' h1' FG' F1 N1 B' X' T'; (try dsimp only); (try k_fold))
  clear F' N'
  have ml' : (l, lstO vs ep) ∈ (x', instObj 276 d') :: (d', dictOf [] 0) :: news := .tail _ (.tail _ ml)
  refine exec_split 3 (fun s' => ∀ PP : Prop, (∀ h' tk m' t, (s' = { s with heap := h', toks := tk }) → (Fr g' L' h' m') → (News g' L' h' ((x', instObj 276 d') :: (d', hdD w l t) :: news)) → (m' (Str.ofString "headers") = some (.ref l)) → (m' (Str.ofString "self") = some (.ref x')) → PP) → PP) ?_ ?_
  · refine opq ?_
    intro QQ EE hQQ
    dsimp only [List.take]
    k_steps
    rename Fr _ _ _ _ => F3
    rename News _ _ _ _ => N3
    refine hQQ _ _ ?_
    exact Hold.mk ⟨rfl, fun PP kk => kk _ _ _ _ rfl F3 N3 rfl rfl⟩
  clear F1 N1 ml'
  dsimp only [List.drop]
  intro s' hPP
  refine hPP _ ?_
  clear hPP
  rintro h' tk m' t rfl F1 N1 q1 q2
  k_steps
  refine For_turns F1 ?_
  k_steps
  refine for_list (fun rem m₁ n₁ => n₁ = ((x', instObj 276 d') :: (d', hdD w l t) :: news) ∧ m₁ (Str.ofString "self") = some (.ref x') ∧ ∃ rs, PL news rem rs ∧ OkP rs) rfl F1 N1 (.tail _ (.tail _ ml)) rfl rfl ⟨rfl, q2, _, hp, ho⟩ ?_ ?_
  · clear F1 N1 q1 q2
    rintro I v r m₁ n₁ o h tk ⟨rfl, q2, rs, hr, hor⟩ hI hm F1 N1
    cases hr with | @cons a k v tk tv _ rl ha hr =>
    have ha' : (a, tupO [.str k tk, .str v tv]) ∈ (I, o) :: (x', instObj 276 d') :: (d', hdD w l t) :: news := .tail _ (.tail _ (.tail _ ha))
    have k1 := hor.head.1
    have k2 := hor.head.2
    repeat' (first | ((with_reducible show wpAny _ _ (PySem.call (Value.ref _) _ _) _ _ _); (k_here; (with_reducible show wpAny _ _ (call (Value.ref 175) _ _) _ _ _); k_dflt (refine convert_c (by k_asm) (by with_reducible assumption) (by k_asm) (by with_reducible assumption) (by k_asm) rfl (by first | exact rmN (k := 6) hd rfl | exact rmN (k := 11) hd rfl | exact rmN (k := 16) hd rfl | exact rmN (k := 21) hd rfl | exact rmN (k := 26) hd rfl | ((try dsimp only [ktrTop]); omega)) (by first | exact rmN (k := 43) hu rfl | exact rmN (k := 83) hu rfl | exact rmN (k := 123) hu rfl | exact rmN (k := 163) hu rfl | ((try dsimp only [ktrTop]); omega)) (by assumption) ?_); intro _ _ _ _ _)) | (k_unfold; (try dsimp only)) | (k_end; kc_close) | walk1 | (dsimp only; first | ((with_reducible show wpAny _ _ (PySem.call (Value.ref _) _ _) _ _ _); (k_here; (with_reducible show wpAny _ _ (call (Value.ref 175) _ _) _ _ _); k_dflt (refine convert_c (by k_asm) (by with_reducible assumption) (by k_asm) (by with_reducible assumption) (by k_asm) rfl (by first | exact rmN (k := 6) hd rfl | exact rmN (k := 11) hd rfl | exact rmN (k := 16) hd rfl | exact rmN (k := 21) hd rfl | exact rmN (k := 26) hd rfl | ((try dsimp only [ktrTop]); omega)) (by first | exact rmN (k := 43) hu rfl | exact rmN (k := 83) hu rfl | exact rmN (k := 123) hu rfl | exact rmN (k := 163) hu rfl | ((try dsimp only [ktrTop]); omega)) (by assumption) ?_); intro _ _ _ _ _)) | walk1) | (leave1; (try dsimp only)))
    rename Fr _ _ _ _ => F3
    rename News _ _ _ _ => N3
    refine TurnTo.mk F3 N3 hI (fun p hp => by rw [List.mem_singleton.mp hp]; exact .tail _ (.tail _ ml)) ?_
    exact ⟨rfl, q2, _, hr, hor.tail⟩
  rintro m₁ n₁ h tk ⟨rfl, q2, _⟩ F3 N3
  k_steps
  exact ret _ _ _ _ _ (by assumption) (by assumption) l1 l2
end Mine

end
section -- P7
open PySem PySem.W PyProof.Rows
set_option maxRecDepth 100000
namespace Mine
open PySem.F PySem.Builtin PySem.Builtin.Str
theorem of_allLt {d : Addr} : ∀ {l : List (Addr × Obj)}, AllLt d l → ∀ p ∈ l, p.1 < d
 := by
  intro l
  induction l with
  | nil => exact fun _ _ h => absurd h List.not_mem_nil
  | cons a l ih =>
    intro h p hp
    rcases List.mem_cons.mp hp with rfl | hp
    · exact h.1
    · exact ih h.2 p hp
theorem genT1 {M : Model} {A : Around} {st : Stmt} {rest : List Stmt} {env : Env} {Q : Flow → Shared → Prop} {E : Value → Shared → Prop} {h : Heap} {g : _} {d : _} {x : Nat} {o : _}
    (k : ∀ tk, 0 < tk → wpAny M A (execs (st :: rest) env) Q E ⟨h, g, d, tk, o⟩) : wpAny M A (execs (st :: rest) env) Q E ⟨h, g, d, x + 1, o⟩ := k (x + 1) (Nat.succ_pos x)
theorem News.swap {h₀ h : Heap} {L : Addr} {a c : Addr × Obj} {n : List (Addr × Obj)} (N : News h₀ L h (a :: c :: n)) : News h₀ L h (c :: a :: n) := fun p hp => N p (by
  rcases List.mem_cons.mp hp with rfl | hp
  · exact .tail _ (.head _)
  rcases List.mem_cons.mp hp with rfl | hp
  · exact .head _
  · exact .tail _ (.tail _ hp))
theorem News.rot {h₀ h : Heap} {L : Addr} {a b c : Addr × Obj} {n : List (Addr × Obj)} (N : News h₀ L h (a :: b :: c :: n)) : News h₀ L h (c :: a :: n) := fun p hp => N p (by
  rcases List.mem_cons.mp hp with rfl | hp
  · exact .tail _ (.tail _ (.head _))
  rcases List.mem_cons.mp hp with rfl | hp
  · exact .head _
  · exact .tail _ (.tail _ (.tail _ hp)))
noncomputable def NoOcc (x y : Str) : Prop := (occurrences x y 0 x.length (x.length + 1)).isEmpty = true
section
variable {prog : Program} {w : World} {A : Around} {E : Value → Shared → Prop} {s : Shared} {Q : Value → Shared → Prop}
theorem call_replace0 {x y z : Str} {t u v : Tok} (hc : NoOcc x y) (h : Q (.str x t) s) : wpAny (model prog w) A (call (.builtin "str.replace") [.str x t, .str y u, .str z v]) Q E s := by
  have hc' : ((occurrences x y 0 x.length (x.length + 1)).isEmpty || (y.length == 0 && z.length == 0)) = true := by
    have : (occurrences x y 0 x.length (x.length + 1)).isEmpty = true := hc
    rw [this]; rfl
  refine call_gives F.slot_str_replace (typeIs_str _ _ _) F.entry_str_replace (F.args_str_replace_3 _ _ _)
    (gives_str_replace x y z t u v fun hf => by rw [hc'] at hf; cases hf) ?_
  rw [if_pos hc']
  exact h
theorem call_replace1 {x y z r : Str} {t : Tok} {u : Nat} (hu : 0 < u) (hyz : (y == z) = false) (hx : x.length ≤ 1048576) (hz : z.length ≤ 14) (e : Txt.replace x y z = r)
    (h : ∀ t' k, Q (.str r t') { s with toks := k }) : wpAny (model prog w) A (call (.builtin "str.replace") [.str x t, .str y u, .str z (u + 1)]) Q E s :=
  SC.replaceW (show @Ne Nat u 0 by lia  ) (show @Ne Nat (u + 1) 0 by lia  ) (show @Ne Nat u (u + 1) by lia  ) hyz hx hz (fun t' k => by rw [e]; exact h t' k)
theorem call_lower {x : Str} {t : Tok} (hx : OkS x) (h : Q (.str (Txt.lower x) s.toks) { s with toks := s.toks + 1 }) : wpAny (model prog w) A (call (.builtin "str.lower") [.str x t]) Q E s :=
  SCL.lower (by have : x.cps.size < 1000000 := hx.2; show x.cps.size ≤ _; lia  ) fun _ => h
theorem call_rstrip {x y : Str} {t : Tok} (e : Txt.rstrip x = y) (hs : x.length ≤ sizeLine) (h0 : 1 ≤ s.toks) (h : ∀ t' k, 0 < k → Q (.str y t') { s with toks := k }) : wpAny (model prog w) A (call (.builtin "str.rstrip") [.str x t]) Q E s :=
  wpAny_toks 1 h0 (KXw.rstrip e hs fun t' k hk => h t' k hk)
end
end Mine

end
section -- W11
theorem Mine.off_W11 : True := by w_top off; trivial
open PySem PySem.W PyProof.Rows
set_option maxRecDepth 100000
namespace Mine
variable {w : World} {p : Program} {loose : List Str} {mean : ExcName → Option Value} {mg mb : Str → Option Value} {dp un : Nat} {gd : Option (List Code)} {cn : Str} {cs : Scope} {a : Addr} {ccd : Value} {cl : List (Str × Addr)} {outer : List Env} {A₀ : Around} {base h₀ : Heap} {L : Addr} {m : Str → Option Value} {news : List (Addr × Obj)} {s : Shared} {Q E : Value → Shared → Prop}
set_option maxHeartbeats 8000000 in
theorem formatparam_c (B : Below A₀ base outer h₀) (F : Fr h₀ L s.heap m) (X : (hd.heap_1 w.params).In h₀) (N : News h₀ L s.heap news) (T : Top p loose mean mg mb h₀) (hk : cs.kind = .function) (hd : dp + 5 < recursionLimit) (hu : un + 40 < cLine)
  {k v : Str} {tk tv : Tok} (hl : (v.length : Int) > 0) (hl2 : v.length < 1000) (hkl : k.length < 1000)
  (r1 : NoOcc v (Str.ofString "\\")) (r2 : NoOcc v (Str.ofString "\""))
  (ret : ∀ t h' tk', Fr h₀ L h' m → News h₀ L h' news → Q (.str (Str.empty ++ k ++ Str.ofString "=\"" ++ v ++ Str.ofString "\"") t) {s with heap := h', toks := tk'}) :
  wpAny (model PySem.Challenge.rw_wy0045_01.row.prog w) (ktrTop dp un gd cn cs L a ccd cl outer) (call (.ref 153) [.str k tk, .str v tv]) Q E s := by
  refine wpAny_call ?_
  k_dflt (refine' code_def ?k1 ?k2 ?k3 ?k4 ?k5 ?kA ?kF ?kK ?k6 ?k7 ?k8 ?k9 ?kB ?_ ?c2 ?c3 ?c4 ?c5; (case kA => exact rfl); (case kF => exact rfl); (case kK => first | assumption | exact rfl); (case k1 => k_asm); (case k2 => k_asm); (case k3 => k_asm); (case k4 => k_asm); (case k5 => k_asm); (case k6 => k_is); (case k7 => k_is); (case k8 => ktr_room); (case k9 => first | exact BindsTo.of_eq rfl | exact binds_K (by k_in) rfl (by k_is) rfl rfl rfl); (case c5 => decide); (case kB => exact locs rfl); (case c2 => exact rfl); (case c3 => exact rfl); (case c4 => exact rfl); k_whole; intro g' L' h1' FG' F' N' B' X' T'; (try dsimp only); (try k_fold))
  have e0 : (Str.empty ++ k).length ≤ sizeLine := by
    rw [sizeLine_eq]; show (#[] ++ k.cps).size ≤ _
    rw [Array.empty_append]; have : k.cps.size < 1000 := hkl; omega
  have e1 : (Str.empty ++ k ++ Str.ofString "=\"" ++ v).length ≤ sizeLine := by
    rw [sizeLine_eq]; show (#[] ++ k.cps ++ (Str.ofString "=\"").cps ++ v.cps).size ≤ _
    have h1 : k.cps.size < 1000 := hkl
    have h2 : v.cps.size < 1000 := hl2
    have h3 : (Str.ofString "=\"").cps.size = 2 := by decide
    simp only [Array.size_append, Array.empty_append]; omega
  repeat' (first | ((with_reducible show wpAny _ _ (PySem.call (Value.builtin "str.replace") _ _) _ _ _); (k_here; k_dflt (refine call_replace0 (by assumption) ?_))) | (k_unfold; (try dsimp only)) | (k_end; kc_close) | walk1 | (dsimp only; first | ((with_reducible show wpAny _ _ (PySem.call (Value.builtin "str.replace") _ _) _ _ _); (k_here; k_dflt (refine call_replace0 (by assumption) ?_))) | walk1) | (leave1; (try dsimp only)))
  · rename Fr _ _ _ _ => F4
    rename News _ _ _ _ => N4
    exact ret _ _ _ F4 N4
end Mine

end
section -- W12
theorem Mine.off_W12 : True := by w_top off; trivial
open PySem PySem.W PyProof.Rows
set_option maxRecDepth 100000
namespace Mine
variable {w : World} {p : Program} {loose : List Str} {mean : ExcName → Option Value} {mg mb : Str → Option Value} {dp un : Nat} {gd : Option (List Code)} {cn : Str} {cs : Scope} {a : Addr} {ccd : Value} {cl : List (Str × Addr)} {outer : List Env} {A₀ : Around} {base h₀ : Heap} {L : Addr} {m : Str → Option Value} {news : List (Addr × Obj)} {s : Shared} {Q E : Value → Shared → Prop}

noncomputable def hdrPart (x : Str) : Str := Str.empty ++ Str.ofString "own-time" ++ Str.ofString "=\"" ++ x ++ Str.ofString "\""
set_option maxHeartbeats 8000000 in
theorem add_header_c {l H D : Addr} {vs : List Value} {ep : Nat} {td : Tok} (B : Below A₀ base outer h₀) (F : Fr h₀ L s.heap m) (X : (hd.heap_1 w.params).In h₀) (N : News h₀ L s.heap ((l, lstO vs ep) :: news)) (T : Top p loose mean mg mb h₀) (hk : cs.kind = .function) (hd : dp + 15 < recursionLimit) (hu : un + 120 < cLine)
  (hl : ∀ p ∈ news, p.1 ≠ l) (mH : (H, instObj 276 D) ∈ news) (mD : (D, hdD w l td) ∈ news) (hvs : vs.length < 1000)
  {nm v x : Str} {tn tv tx : Tok} (on : OkS nm) (ov : OkS v) (ox : OkS x) (okk : OkS (Str.ofString "own_time")) (xl : (x.length : Int) > 0) (xl2 : x.length < 1000) (r1 : NoOcc x (Str.ofString "\\")) (r2 : NoOcc x (Str.ofString "\""))
  {y : Str} (hj : JoinOk (Str.ofString "; ") [v, hdrPart x] = true) (hy : Txt.join (Str.ofString "; ") [v, hdrPart x] = y)
  (ret : ∀ T t1 t2 ep' h' tk', Fr h₀ L h' m → News h₀ L h' ((l, lstO (vs ++ [.ref T]) ep') :: (T, tupO [.str nm t1, .str y t2]) :: news) → (∀ p ∈ news, p.1 < T) → l < T → Q .none {s with heap := h', toks := tk'}) :
  wpAny (model PySem.Challenge.rw_wy0045_01.row.prog w) (ktrTop dp un gd cn cs L a ccd cl outer) (call (.ref 273) [.ref H, .str nm tn, .str v tv] [(Str.ofString "own_time", .str x tx)]) Q E s := by
  refine wpAny_call ?_
  k_dflt (refine' kp_more ?k1 ?k2 ?k3 ?k4 ?k5 ?kA ?kF ?kK ?k6 ?k7 ?k8 ?kX ?kM ?kN ?kD ?kR ?kP ?kT ?kB ?_ ?c2 ?c3 ?c4 ?c5; (case kA => exact rfl); (case kF => exact rfl); (case kK => first | assumption | exact rfl); (case k1 => k_asm); (case k2 => k_asm); (case k3 => k_asm); (case k4 => k_asm); (case k5 => k_asm); (case k6 => k_is); (case k7 => k_is); (case k8 => ktr_room); (case kX => kp_lit); (case kM => exact rfl); (case kN => exact rfl); (case kD => kp_flats); (case kR => exact rfl); (case kP => exact rfl); (case kT => exact fun _ => rfl); (case kB => exact fun _ => locs rfl); (case c5 => decide); (case c2 => exact rfl); (case c3 => exact rfl); (case c4 => exact rfl); k_whole; intro p' o' g' L' h' tk' l1 lo' hs' fs' FG' F' N' B' X' T'; (try dsimp only); (try k_fold))
  have nm1 : (Str.ofString "_params" == Str.ofString "parts") = false := by decide +kernel
  refine exec_split 2 (fun s' => ∀ PP : Prop, (∀ h' tk m' P eP, (s' = { s with heap := h', toks := tk }) → (Fr g' L' h' m') → (News g' L' h' ((P, lstO [.str v tv] eP) :: (p', o') :: (l, lstO vs ep) :: news)) → (∀ p ∈ (p', o') :: (l, lstO vs ep) :: news, p.1 < P) → (m' (Str.ofString "parts") = some (.ref P)) → (m' (Str.ofString "_params") = some (.ref p')) → (m' (Str.ofString "self") = some (.ref H)) → (m' (Str.ofString "_name") = some (.str nm tn)) → PP) → PP) ?_ ?_
  · refine opq ?_
    intro QQ EE hQQ
    dsimp only [List.take]
    repeat' (first | ((with_reducible show wpAny _ _ (PySem.call (Value.ref _) _ _) _ _ _); (k_here; (with_reducible show wpAny _ _ (call (Value.ref 175) _ _) _ _ _); k_dflt (refine convert_c (by k_asm) (by with_reducible assumption) (by k_asm) (by with_reducible assumption) (by k_asm) rfl (by first | exact rmN (k := 6) hd rfl | exact rmN (k := 11) hd rfl | exact rmN (k := 16) hd rfl | exact rmN (k := 21) hd rfl | exact rmN (k := 26) hd rfl | ((try dsimp only [ktrTop]); omega)) (by first | exact rmN (k := 43) hu rfl | exact rmN (k := 83) hu rfl | exact rmN (k := 123) hu rfl | exact rmN (k := 163) hu rfl | ((try dsimp only [ktrTop]); omega)) (by assumption) ?_); intro _ _ _ _ _)) | ((with_reducible show wpAny _ _ (execs (_ :: _) _) _ _ _); (k_here; k_dflt (refine genT1 ?_); intro _ _)) | (k_unfold; (try dsimp only)) | (k_end; kc_close) | walk1 | (dsimp only; first | ((with_reducible show wpAny _ _ (PySem.call (Value.ref _) _ _) _ _ _); (k_here; (with_reducible show wpAny _ _ (call (Value.ref 175) _ _) _ _ _); k_dflt (refine convert_c (by k_asm) (by with_reducible assumption) (by k_asm) (by with_reducible assumption) (by k_asm) rfl (by first | exact rmN (k := 6) hd rfl | exact rmN (k := 11) hd rfl | exact rmN (k := 16) hd rfl | exact rmN (k := 21) hd rfl | exact rmN (k := 26) hd rfl | ((try dsimp only [ktrTop]); omega)) (by first | exact rmN (k := 43) hu rfl | exact rmN (k := 83) hu rfl | exact rmN (k := 123) hu rfl | exact rmN (k := 163) hu rfl | ((try dsimp only [ktrTop]); omega)) (by assumption) ?_); intro _ _ _ _ _)) | ((with_reducible show wpAny _ _ (execs (_ :: _) _) _ _ _); (k_here; k_dflt (refine genT1 ?_); intro _ _)) | walk1) | (leave1; (try dsimp only)))
    rename Fr _ _ _ _ => F3
    rename News _ _ _ _ => N3
    rename _ ∧ _ => l2
    refine hQQ _ _ ?_
    exact Hold.mk ⟨rfl, fun PP kk => kk _ _ _ _ _ rfl F3 N3 (of_allLt l2) rfl rfl rfl rfl⟩
  clear F' N'
  dsimp only [List.drop]
  intro s' hPP
  refine hPP _ ?_
  clear hPP
  rintro h' tk m' P eP rfl F1 N1 lP q1 q2 q3 q4
  refine exec_split 1 (fun s' => ∀ PP : Prop, (∀ h' tk m' P eP ty, (s' = { s with heap := h', toks := tk }) → (Fr g' L' h' m') → (News g' L' h' ((P, lstO [.str v tv, .str (hdrPart x) ty] eP) :: (l, lstO vs ep) :: news)) → (∀ p ∈ (l, lstO vs ep) :: news, p.1 < P) → (m' (Str.ofString "parts") = some (.ref P)) → (m' (Str.ofString "self") = some (.ref H)) → (m' (Str.ofString "_name") = some (.str nm tn)) → PP) → PP) ?_ ?_
  · refine opqQ ?_
    intro QQ hQQ
    dsimp only [List.take]
    k_steps
    refine For_turns F1 ?_
    repeat' (first | ((with_reducible show wpAny _ _ (PySem.call (Value.builtin "dict.items") _ _) _ _ _); (k_here; k_dflt (refine kta_callItems (knd := PySem.strKind _ _) (by with_reducible assumption) (by with_reducible assumption) (by k_mem) (by with_reducible assumption) (by with_reducible assumption) ?_); intro _ _ _ _)) | ((k_here; (with_reducible show wpAny _ _ (getMethod (Value.ref _) (PySem.Str.ofString "items") _) _ _ _); k_dflt (refine kdl_method (knd := PySem.strKind _ _) PySem.F.slot_dict_items PySem.F.type_dict_items (by with_reducible assumption) (by k_mem) (by with_reducible assumption) ?_))) | (k_unfold; (try dsimp only)) | (k_end; kc_close) | walk1 | (dsimp only; first | ((with_reducible show wpAny _ _ (PySem.call (Value.builtin "dict.items") _ _) _ _ _); (k_here; k_dflt (refine kta_callItems (knd := PySem.strKind _ _) (by with_reducible assumption) (by with_reducible assumption) (by k_mem) (by with_reducible assumption) (by with_reducible assumption) ?_); intro _ _ _ _)) | ((k_here; (with_reducible show wpAny _ _ (getMethod (Value.ref _) (PySem.Str.ofString "items") _) _ _ _); k_dflt (refine kdl_method (knd := PySem.strKind _ _) PySem.F.slot_dict_items PySem.F.type_dict_items (by with_reducible assumption) (by k_mem) (by with_reducible assumption) ?_))) | walk1) | (leave1; (try dsimp only)))
    rename Exists _ => hvw
    rename Fr _ _ _ _ => F3
    rename News _ _ _ _ => N3
    refine for_items (fun rem m₁ n₁ => ∃ eP ps, n₁ = (P, lstO ps eP) :: (p', o') :: (l, lstO vs ep) :: news ∧ m₁ (Str.ofString "parts") = some (.ref P) ∧ m₁ (Str.ofString "self") = some (.ref H) ∧ m₁ (Str.ofString "_name") = some (.str nm tn) ∧
      ((rem = [(Str.ofString "own_time", .str x tx)] ∧ ps = [.str v tv]) ∨ (rem = [] ∧ ∃ ty, ps = [.str v tv, .str (hdrPart x) ty]))) rfl F3 (fun p hp => N3 p (by first | exact hp | exact .tail _ hp)) hvw (.tail _ (.head _)) hs' ⟨_, _, rfl, q1, q3, q4, .inl ⟨rfl, rfl⟩⟩ ?_ ?_
    · clear F3 N3 q1 q2 q3 q4 hvw F1 N1
      rintro I k y r m₁ n₁ oi h tk Tt t ⟨eP, ps, rfl, q1, q3, q4, (⟨e, rfl⟩ | ⟨e, _⟩)⟩ hI hm F1 N1 hT
      · cases e
        have hIP : I ≠ P := fun e => hI _ (.head _) e.symm
        repeat' (first | ((with_reducible show wpAny _ _ (PySem.call (Value.builtin "str.replace") _ _) _ _ _); (k_here; k_dflt (refine call_replace1 (by assumption) (by decide +kernel) (by decide +kernel) (by decide +kernel) (by decide +kernel : _ = Str.ofString "own-time") ?_); intro _ _)) | ((with_reducible show wpAny _ _ (PySem.call (Value.ref _) _ _) _ _ _); (k_here; (with_reducible show wpAny _ _ (call (Value.ref 153) _) _ _ _); k_dflt (refine formatparam_c (by k_asm) (by with_reducible assumption) (by k_asm) (by with_reducible assumption) (by k_asm) rfl (by first | exact rmN (k := 6) hd rfl | exact rmN (k := 11) hd rfl | exact rmN (k := 16) hd rfl | exact rmN (k := 21) hd rfl | exact rmN (k := 26) hd rfl | ((try dsimp only [ktrTop]); omega)) (by first | exact rmN (k := 43) hu rfl | exact rmN (k := 83) hu rfl | exact rmN (k := 123) hu rfl | exact rmN (k := 163) hu rfl | ((try dsimp only [ktrTop]); omega)) (by assumption) (by assumption) (by decide) (by assumption) (by assumption) ?_); intro _ _ _ _ _)) | ((with_reducible show wpAny _ _ (PySem.call (Value.ref _) _ _) _ _ _); (k_here; (with_reducible show wpAny _ _ (call (Value.ref 175) _ _) _ _ _); k_dflt (refine convert_c (by k_asm) (by with_reducible assumption) (by k_asm) (by with_reducible assumption) (by k_asm) rfl (by first | exact rmN (k := 6) hd rfl | exact rmN (k := 11) hd rfl | exact rmN (k := 16) hd rfl | exact rmN (k := 21) hd rfl | exact rmN (k := 26) hd rfl | ((try dsimp only [ktrTop]); omega)) (by first | exact rmN (k := 43) hu rfl | exact rmN (k := 83) hu rfl | exact rmN (k := 123) hu rfl | exact rmN (k := 163) hu rfl | ((try dsimp only [ktrTop]); omega)) (by assumption) ?_); intro _ _ _ _ _)) | ((with_reducible show wpAny _ _ (execs (_ :: _) _) _ _ _); (k_here; k_dflt (refine genT1 ?_); intro _ _)) | (k_unfold; (try dsimp only)) | (k_end; kc_close) | walk1 | (dsimp only; first | ((with_reducible show wpAny _ _ (PySem.call (Value.builtin "str.replace") _ _) _ _ _); (k_here; k_dflt (refine call_replace1 (by assumption) (by decide +kernel) (by decide +kernel) (by decide +kernel) (by decide +kernel : _ = Str.ofString "own-time") ?_); intro _ _)) | ((with_reducible show wpAny _ _ (PySem.call (Value.ref _) _ _) _ _ _); (k_here; (with_reducible show wpAny _ _ (call (Value.ref 153) _) _ _ _); k_dflt (refine formatparam_c (by k_asm) (by with_reducible assumption) (by k_asm) (by with_reducible assumption) (by k_asm) rfl (by first | exact rmN (k := 6) hd rfl | exact rmN (k := 11) hd rfl | exact rmN (k := 16) hd rfl | exact rmN (k := 21) hd rfl | exact rmN (k := 26) hd rfl | ((try dsimp only [ktrTop]); omega)) (by first | exact rmN (k := 43) hu rfl | exact rmN (k := 83) hu rfl | exact rmN (k := 123) hu rfl | exact rmN (k := 163) hu rfl | ((try dsimp only [ktrTop]); omega)) (by assumption) (by assumption) (by decide) (by assumption) (by assumption) ?_); intro _ _ _ _ _)) | ((with_reducible show wpAny _ _ (PySem.call (Value.ref _) _ _) _ _ _); (k_here; (with_reducible show wpAny _ _ (call (Value.ref 175) _ _) _ _ _); k_dflt (refine convert_c (by k_asm) (by with_reducible assumption) (by k_asm) (by with_reducible assumption) (by k_asm) rfl (by first | exact rmN (k := 6) hd rfl | exact rmN (k := 11) hd rfl | exact rmN (k := 16) hd rfl | exact rmN (k := 21) hd rfl | exact rmN (k := 26) hd rfl | ((try dsimp only [ktrTop]); omega)) (by first | exact rmN (k := 43) hu rfl | exact rmN (k := 83) hu rfl | exact rmN (k := 123) hu rfl | exact rmN (k := 163) hu rfl | ((try dsimp only [ktrTop]); omega)) (by assumption) ?_); intro _ _ _ _ _)) | ((with_reducible show wpAny _ _ (execs (_ :: _) _) _ _ _); (k_here; k_dflt (refine genT1 ?_); intro _ _)) | walk1) | (leave1; (try dsimp only)))
        rename Fr _ _ _ _ => F3
        rename News _ _ _ _ => N3
        refine TurnTo.mk F3 N3 (fun p hp => ?_) (fun p hp => ?_) ?_
        · rcases List.mem_cons.mp hp with rfl | hp
          · exact hIP.symm
          · exact hI p (.tail _ hp)
        · rw [List.mem_singleton.mp hp]; exact .tail _ (.head _)
        · exact ⟨_, _, rfl, q1, q3, q4, .inr ⟨by trivial, _, rfl⟩⟩
      · cases e
    · rintro m₁ n₁ h tk ⟨eP, ps, rfl, q1, q3, q4, (⟨e, _⟩ | ⟨_, ty, rfl⟩)⟩ F1 N1
      · cases e
      · k_steps
        refine hQQ _ _ ?_
        exact Hold.mk ⟨rfl, fun PP kk => kk _ _ _ _ _ _ rfl F1 (fun p hp => N1 p (by rcases List.mem_cons.mp hp with rfl | hp; exact .head _; exact .tail _ (.tail _ hp))) (fun p hp => lP p (.tail _ hp)) q1 q3 q4⟩
  clear F1 N1 q1 q2 q3 q4 lP
  dsimp only [List.drop]
  intro s' hPP
  refine hPP _ ?_
  clear hPP
  rintro h' tk m' P eP ty rfl F1 N1 lP q1 q3 q4
  repeat' (first | ((with_reducible show wpAny _ _ (PySem.call (Value.ref _) _ _) _ _ _); (k_here; (with_reducible show wpAny _ _ (call (Value.ref 175) _ _) _ _ _); k_dflt (refine convert_c (by k_asm) (by with_reducible assumption) (by k_asm) (by with_reducible assumption) (by k_asm) rfl (by first | exact rmN (k := 6) hd rfl | exact rmN (k := 11) hd rfl | exact rmN (k := 16) hd rfl | exact rmN (k := 21) hd rfl | exact rmN (k := 26) hd rfl | ((try dsimp only [ktrTop]); omega)) (by first | exact rmN (k := 43) hu rfl | exact rmN (k := 83) hu rfl | exact rmN (k := 123) hu rfl | exact rmN (k := 163) hu rfl | ((try dsimp only [ktrTop]); omega)) (by assumption) ?_); intro _ _ _ _ _)) | (k_unfold; (try dsimp only)) | (k_end; kc_close) | walk1 | (dsimp only; first | ((with_reducible show wpAny _ _ (PySem.call (Value.ref _) _ _) _ _ _); (k_here; (with_reducible show wpAny _ _ (call (Value.ref 175) _ _) _ _ _); k_dflt (refine convert_c (by k_asm) (by with_reducible assumption) (by k_asm) (by with_reducible assumption) (by k_asm) rfl (by first | exact rmN (k := 6) hd rfl | exact rmN (k := 11) hd rfl | exact rmN (k := 16) hd rfl | exact rmN (k := 21) hd rfl | exact rmN (k := 26) hd rfl | ((try dsimp only [ktrTop]); omega)) (by first | exact rmN (k := 43) hu rfl | exact rmN (k := 83) hu rfl | exact rmN (k := 123) hu rfl | exact rmN (k := 163) hu rfl | ((try dsimp only [ktrTop]); omega)) (by assumption) ?_); intro _ _ _ _ _)) | walk1) | (leave1; (try dsimp only)))
  rename Fr _ _ _ _ => F3
  rename News _ _ _ _ => N3
  refine SC.join (l := [(v, tv), (hdrPart x, ty)]) (texts := [v, hdrPart x]) (News.isList N3 (.head _)) rfl hj (fun tJ kJ => ?_)
  rw [hy]
  dsimp only
  have lPl : l < P := lP (l, lstO vs ep) (.head _)
  k_lt2 lPl
  have hsz : vs.length + 1 ≤ sizeLine := by rw [sizeLine_eq]; omega
  repeat' (first | ((with_reducible show wpAny _ _ (newTuple _) _ _ _); (k_here; k_dflt (refine kup_newTuple (by k_asm) (by k_asm) ?_ (by kmk_size)); intro _ _ _ _ lq1; (try k_lt lq1))) | (k_unfold; (try dsimp only)) | (k_end; kc_close) | walk1 | (dsimp only; first | ((with_reducible show wpAny _ _ (newTuple _) _ _ _); (k_here; k_dflt (refine kup_newTuple (by k_asm) (by k_asm) ?_ (by kmk_size)); intro _ _ _ _ lq1; (try k_lt lq1))) | walk1) | (leave1; (try dsimp only)))
  rename Fr _ _ _ _ => F4
  rename News _ _ _ _ => N4
  rename _ ∧ _ => l2
  simp only [List.push_toArray] at N4
  exact ret _ _ _ _ _ _ F4 (News.rot N4) (of_allLt l2.2.2) l2.2.1
end Mine

end
section -- W13
theorem Mine.off_W13 : True := by w_top off; trivial
open PySem PySem.W PyProof.Rows
set_option maxRecDepth 100000
namespace Mine
variable {w : World} {p : Program} {loose : List Str} {mean : ExcName → Option Value} {mg mb : Str → Option Value} {dp un : Nat} {gd : Option (List Code)} {cn : Str} {cs : Scope} {a : Addr} {ccd : Value} {cl : List (Str × Addr)} {outer : List Env} {A₀ : Around} {base h₀ : Heap} {L : Addr} {m : Str → Option Value} {news : List (Addr × Obj)} {s : Shared} {Q E : Value → Shared → Prop}
set_option maxHeartbeats 8000000 in
theorem get_c {l H D : Addr} {vs : List Value} {ep : Nat} {td : Tok} (B : Below A₀ base outer h₀) (F : Fr h₀ L s.heap m) (X : (hd.heap_1 w.params).In h₀) (N : News h₀ L s.heap news) (T : Top p loose mean mg mb h₀) (hk : cs.kind = .function) (hd : dp + 10 < recursionLimit) (hu : un + 80 < cLine)
  (mH : (H, instObj 276 D) ∈ news) (mD : (D, hdD w l td) ∈ news) (ml : (l, lstO vs ep) ∈ news) {ps : List (Str × Str)} (hp : PL news vs ps) (op : OkP ps)
  {nm ln : Str} {tn : Tok} (on : OkS nm) (oln : OkS (Txt.lower nm)) {k v : Str} (hf : ps.find? (fun p => Txt.lower p.1 == Txt.lower nm) = some (k, v))
  (ret : ∀ t h' tk', Fr h₀ L h' m → News h₀ L h' news → Q (.str v t) {s with heap := h', toks := tk'}) :
  wpAny (model PySem.Challenge.rw_wy0045_01.row.prog w) (ktrTop dp un gd cn cs L a ccd cl outer) (call (.ref 223) [.ref H, .str nm tn]) Q E s := by
  refine wpAny_call ?_
  k_dflt (refine' code_def ?k1 ?k2 ?k3 ?k4 ?k5 ?kA ?kF ?kK ?k6 ?k7 ?k8 ?k9 ?kB ?_ ?c2 ?c3 ?c4 ?c5; (case kA => exact rfl); (case kF => exact rfl); (case kK => first | assumption | exact rfl); (case k1 => k_asm); (case k2 => k_asm); (case k3 => k_asm); (case k4 => k_asm); (case k5 => k_asm); (case k6 => k_is); (case k7 => k_is); (case k8 => ktr_room); (case k9 => first | exact BindsTo.of_eq rfl | exact binds_K (by k_in) rfl (by k_is) rfl rfl rfl); (case c5 => decide); (case kB => exact locs rfl); (case c2 => exact rfl); (case c3 => exact rfl); (case c4 => exact rfl); k_whole; intro g' L' h1' FG' F' N' B' X' T'; (try dsimp only); (try k_fold))
  refine exec_split 1 (fun s' => ∀ PP : Prop, (∀ h' tk m' t, (s' = { s with heap := h', toks := tk }) → (Fr g' L' h' m') → (News g' L' h' news) → (m' (Str.ofString "self") = some (.ref H)) → (m' (Str.ofString "name") = some (.str (Txt.lower nm) t)) → PP) → PP) ?_ ?_
  · refine opq ?_
    intro QQ EE hQQ
    dsimp only [List.take]
    repeat' (first | ((with_reducible show wpAny _ _ (PySem.call (Value.builtin "str.lower") _ _) _ _ _); (k_here; k_dflt (refine call_lower (by assumption) ?_))) | ((with_reducible show wpAny _ _ (PySem.call (Value.ref _) _ _) _ _ _); (k_here; (with_reducible show wpAny _ _ (call (Value.ref 175) _ _) _ _ _); k_dflt (refine convert_c (by k_asm) (by with_reducible assumption) (by k_asm) (by with_reducible assumption) (by k_asm) rfl (by first | exact rmN (k := 6) hd rfl | exact rmN (k := 11) hd rfl | exact rmN (k := 16) hd rfl | exact rmN (k := 21) hd rfl | exact rmN (k := 26) hd rfl | ((try dsimp only [ktrTop]); omega)) (by first | exact rmN (k := 43) hu rfl | exact rmN (k := 83) hu rfl | exact rmN (k := 123) hu rfl | exact rmN (k := 163) hu rfl | ((try dsimp only [ktrTop]); omega)) (by assumption) ?_); intro _ _ _ _ _)) | (k_unfold; (try dsimp only)) | (k_end; kc_close) | walk1 | (dsimp only; first | ((with_reducible show wpAny _ _ (PySem.call (Value.builtin "str.lower") _ _) _ _ _); (k_here; k_dflt (refine call_lower (by assumption) ?_))) | ((with_reducible show wpAny _ _ (PySem.call (Value.ref _) _ _) _ _ _); (k_here; (with_reducible show wpAny _ _ (call (Value.ref 175) _ _) _ _ _); k_dflt (refine convert_c (by k_asm) (by with_reducible assumption) (by k_asm) (by with_reducible assumption) (by k_asm) rfl (by first | exact rmN (k := 6) hd rfl | exact rmN (k := 11) hd rfl | exact rmN (k := 16) hd rfl | exact rmN (k := 21) hd rfl | exact rmN (k := 26) hd rfl | ((try dsimp only [ktrTop]); omega)) (by first | exact rmN (k := 43) hu rfl | exact rmN (k := 83) hu rfl | exact rmN (k := 123) hu rfl | exact rmN (k := 163) hu rfl | ((try dsimp only [ktrTop]); omega)) (by assumption) ?_); intro _ _ _ _ _)) | walk1) | (leave1; (try dsimp only)))
    rename Fr _ _ _ _ => F3
    rename News _ _ _ _ => N3
    refine hQQ _ _ ?_
    exact Hold.mk ⟨rfl, fun PP kk => kk _ _ _ _ rfl F3 N3 rfl rfl⟩
  clear F' N'
  dsimp only [List.drop]
  intro s' hPP
  refine hPP _ ?_
  clear hPP
  rintro h' tk m' t rfl F1 N1 q1 q2
  k_steps
  refine For_turns F1 ?_
  k_steps
  refine for_list (fun rem m₁ n₁ => n₁ = news ∧ m₁ (Str.ofString "name") = some (.str (Txt.lower nm) t) ∧ ∃ rs, PL news rem rs ∧ OkP rs ∧ rs.find? (fun p => Txt.lower p.1 == Txt.lower nm) = some (k, v)) rfl F1 N1 ml rfl rfl ⟨rfl, q2, _, hp, op, hf⟩ ?_ ?_
  · clear F1 N1 q1 q2
    rintro I y r m₁ n₁ o h tk ⟨rfl, q2, rs, hr, hor, hf⟩ hI hm F1 N1
    cases hr with | @cons a' k' v' tk' tv _ rl ha hr =>
    have ha' : (a', tupO [.str k' tk', .str v' tv]) ∈ (I, o) :: n₁ := .tail _ ha
    have k1 := hor.head.1
    have k2 := hor.head.2
    repeat' (first | ((with_reducible show wpAny _ _ (PySem.call (Value.builtin "str.lower") _ _) _ _ _); (k_here; k_dflt (refine call_lower (by assumption) ?_))) | (k_unfold; (try dsimp only)) | (k_end; kc_close) | walk1 | (dsimp only; first | ((with_reducible show wpAny _ _ (PySem.call (Value.builtin "str.lower") _ _) _ _ _); (k_here; k_dflt (refine call_lower (by assumption) ?_))) | walk1) | (leave1; (try dsimp only)))
    · rename (Txt.lower k' == Txt.lower nm) = true => hc
      have e : v' = v := by
        rw [List.find?_cons] at hf
        dsimp only at hf
        rw [hc] at hf
        exact congrArg Prod.snd (Option.some.inj hf)
      subst e
      dsimp only [TurnPostJ]
      k_steps
      rename Fr _ _ _ _ => F4
      rename News _ _ _ _ => N4
      exact ret _ _ _ F4 (fun p hp => N4 p (.tail _ hp))
    · rename (Txt.lower k' == Txt.lower nm) = false => hc
      rename Fr _ _ _ _ => F4
      rename News _ _ _ _ => N4
      refine TurnTo.mk F4 N4 hI (fun p hp => by rw [List.mem_singleton.mp hp]; exact ml) ?_
      refine ⟨rfl, q2, _, hr, hor.tail, ?_⟩
      rw [List.find?_cons] at hf
      dsimp only at hf
      rw [hc] at hf
      exact hf
  rintro m₁ n₁ h tk ⟨rfl, q2, rs, hr, _, hf⟩ F1 N1
  cases hr
  cases hf
end Mine

end
section -- P8
open PySem PySem.W PyProof.Rows
set_option maxRecDepth 100000
namespace Mine
theorem pick_all (vs : List Value) : kms_pick vs.toArray.toList none none = vs := by simp [kms_pick, kms_lo, kms_hi]
theorem off1_mem {D : Addr} {l : List (Addr × Obj)} : LCg.Off1 D l → ∀ p ∈ l, p.1 ≠ D := by
  induction l with
  | nil => intro _ p hp; cases hp
  | cons a r ih =>
    intro h p hp
    rcases List.mem_cons.mp hp with e | hp
    · rw [e]; exact h.1
    · exact ih h.2 p hp
/-- what an item of a comprehension leaves -/
noncomputable def CTo (h₀ : Heap) (L : Addr) (m : Str → Option Value) (s : Shared) (I : Addr) (oI : Obj) (C : Addr) (oC : Obj) (D : Addr) (oD : Obj) (K : Addr × Obj) (J : Value → List (Addr × Obj) → Prop) (y : Value) (s' : Shared) : Prop :=
  ∃ h' tk n', s' = { s with heap := h', toks := tk } ∧ Fr h₀ L h' m ∧ News h₀ L h' ((I, oI) :: (C, oC) :: (D, oD) :: n') ∧ LCg.Off3 I C D n' ∧ K ∈ n' ∧ J y n'
theorem CTo.mk {h₀ : Heap} {L I C D : Addr} {m : Str → Option Value} {s : Shared} {oI oC oD : Obj} {K : Addr × Obj} {J : Value → List (Addr × Obj) → Prop} {y : Value} {h' : Heap} {tk : Nat} {n' : List (Addr × Obj)}
    (F : Fr h₀ L h' m) (N : News h₀ L h' ((I, oI) :: (C, oC) :: (D, oD) :: n')) (off : LCg.Off3 I C D n') (hK : K ∈ n') (hJ : J y n') : CTo h₀ L m s I oI C oC D oD K J y { s with heap := h', toks := tk } := ⟨h', tk, n', rfl, F, N, off, hK, hJ⟩
section
variable {prog : Program} {w : World} {A : Around} {E : Value → Shared → Prop} {s : Shared} {h₀ : Heap} {L : Addr} {m : Str → Option Value} {env : Env} {elt ct iter : Expr} {scope : Scope} {cl : List (Str × Addr)} {pos : Pos} {Q : Value → Shared → Prop}
theorem drop_cons {vs : List Value} {i : Nat} {v : Value} (h : vs.toArray[i]? = some v) : vs.drop i = v :: vs.drop (i + 1) := by
  rw [List.getElem?_toArray] at h
  exact List.drop_eq_getElem?_toList_append.trans (by rw [h]; rfl)
theorem cl_rest {x : Str} {ax : Addr} {lo : Obj} {vs : List Value} {k : Nat} (hc : lo.cls = .type "list") (hd : lo.data = .seq vs.toArray k) (J : List Value → List Value → List (Addr × Obj) → Prop) {Fin : List Value → List (Addr × Obj) → Prop}
    (turn : ∀ v r ys n I oI C oC D m₂ h tk (E' : Value → Shared → Prop), J (v :: r) ys n → (ax, lo) ∈ n → LCg.NsObj oC m₂ → m₂ x = some v → Fr h₀ L h m → News h₀ L h ((I, oI) :: (C, oC) :: (D, LCg.lst ys) :: n) → LCg.Off3 I C D n → ((@Ne Nat I C) ∧ (@Ne Nat I D) ∧ (@Ne Nat C D)) →
      wpAny (model prog w) A (eval elt (compEnvC scope cl C env)) (CTo h₀ L m { s with heap := h, toks := tk } I oI C oC D (LCg.lst ys) (ax, lo) (fun y n' => J r (ys ++ [y]) n')) E' { s with heap := h, toks := tk })
    (done : ∀ ys n, J [] ys n → (ax, lo) ∈ n → Fin ys n) : ∀ (q i : Nat) (ys : List Value) (n : List (Addr × Obj)), i + q = vs.length → J (vs.drop i) ys n → (ax, lo) ∈ n →
    LCg.CompRest prog w A h₀ L m env elt x scope cl s (LCg.SrcAt h₀ ax vs.toArray) (fun i v => vs.toArray[i]? = some v) Fin q i ys n := by
  intro q
  induction q with
  | zero =>
    intro i ys n e hJ hm
    rw [List.drop_eq_nil_of_le (by lia  )] at hJ
    exact LCg.CompRest.zero (done ys n hJ hm)
  | succ q ih =>
    intro i ys n e hJ hm
    refine LCg.CompRest.succ fun v I oI C oC D m₂ h tk E' hv hC hx F N off ne => ?_
    rw [drop_cons hv] at hJ
    refine wpAny_mono (turn v _ ys n I oI C oC D m₂ h tk E' hJ hm hC hx F N off ne) (fun y s' h' => ?_) fun _ _ e => e
    obtain ⟨h1, tk1, n', rfl, F', N', off', hK, hJ'⟩ := h'
    exact ⟨h1, tk1, n', rfl, F', N', off', .inr ⟨lo, hK, hc, k, hd⟩, ih (i + 1) _ n' (by lia  ) hJ' hK⟩
theorem cl_rest_P {x x₂ : Str} {ax : Addr} {lo : Obj} {vs : List Value} {k : Nat} (hc : lo.cls = .type "list") (hd : lo.data = .seq vs.toArray k) (J : List Value → List Value → List (Addr × Obj) → Prop) {Fin : List Value → List (Addr × Obj) → Prop}
    (turn : ∀ v r ys n, J (v :: r) ys n → (ax, lo) ∈ n → ∃ t v₁ v₂, v = .ref t ∧ (t, tupO [v₁, v₂]) ∈ n ∧ ∀ I oI C oC D m₂ h tk (E' : Value → Shared → Prop), LCg.NsObj oC m₂ → m₂ x = some v₁ → m₂ x₂ = some v₂ → Fr h₀ L h m → News h₀ L h ((I, oI) :: (C, oC) :: (D, LCg.lst ys) :: n) → LCg.Off3 I C D n → ((@Ne Nat I C) ∧ (@Ne Nat I D) ∧ (@Ne Nat C D)) →
      wpAny (model prog w) A (eval elt (compEnvC scope cl C env)) (CTo h₀ L m { s with heap := h, toks := tk } I oI C oC D (LCg.lst ys) (ax, lo) (fun y n' => J r (ys ++ [y]) n')) E' { s with heap := h, toks := tk })
    (done : ∀ ys n, J [] ys n → (ax, lo) ∈ n → Fin ys n) : ∀ (q i : Nat) (ys : List Value) (n : List (Addr × Obj)), i + q = vs.length → J (vs.drop i) ys n → (ax, lo) ∈ n →
    LCp.CompRestP prog w A h₀ L m env elt x x₂ scope cl s (LCg.SrcAt h₀ ax vs.toArray) (fun i v => vs.toArray[i]? = some v) Fin q i ys n := by
  intro q
  induction q with
  | zero =>
    intro i ys n e hJ hm
    rw [List.drop_eq_nil_of_le (by lia  )] at hJ
    exact LCp.CompRestP.zero (done ys n hJ hm)
  | succ q ih =>
    intro i ys n e hJ hm
    refine LCp.CompRestP.succ fun v hv => ?_
    rw [drop_cons hv] at hJ
    obtain ⟨t, v₁, v₂, rfl, ht, trn⟩ := turn v _ ys n hJ hm
    refine ⟨t, _, v₁, v₂, 0, rfl, ht, rfl, rfl, fun I oI C oC D m₂ h tk E' hC hx hx2 F N off ne => ?_⟩
    refine wpAny_mono (trn I oI C oC D m₂ h tk E' hC hx hx2 F N off ne) (fun y s' h' => ?_) fun _ _ e => e
    obtain ⟨h1, tk1, n', rfl, F', N', off', hK, hJ'⟩ := h'
    exact ⟨h1, tk1, n', rfl, F', N', off', .inr ⟨lo, hK, hc, k, hd⟩, ih (i + 1) _ n' (by lia  ) hJ' hK⟩
/-- a test of a comprehension, and its item when it holds -/
theorem cl_rest_T {x : Str} {ax : Addr} {lo : Obj} {vs : List Value} {k : Nat} (hc : lo.cls = .type "list") (hd : lo.data = .seq vs.toArray k) (J : List Value → List Value → List (Addr × Obj) → Prop) {Fin : List Value → List (Addr × Obj) → Prop}
    (turn : ∀ v r ys n I oI C oC D m₂ h tk (E' : Value → Shared → Prop), J (v :: r) ys n → (ax, lo) ∈ n → LCg.NsObj oC m₂ → m₂ x = some v → Fr h₀ L h m → News h₀ L h ((I, oI) :: (C, oC) :: (D, LCg.lst ys) :: n) → LCg.Off3 I C D n → ((@Ne Nat I C) ∧ (@Ne Nat I D) ∧ (@Ne Nat C D)) →
      wpAny (model prog w) A (isTrue ct (compEnvC scope cl C env) (eval ct (compEnvC scope cl C env))) (fun ok s' => if ok = true then
        wpAny (model prog w) A (eval elt (compEnvC scope cl C env)) (CTo h₀ L m { s with heap := h, toks := tk } I oI C oC D (LCg.lst ys) (ax, lo) (fun y n' => J r (ys ++ [y]) n')) E' s'
        else CTo h₀ L m { s with heap := h, toks := tk } I oI C oC D (LCg.lst ys) (ax, lo) (fun _ n' => J r ys n') Value.none s') E' { s with heap := h, toks := tk })
    (done : ∀ ys n, J [] ys n → (ax, lo) ∈ n → Fin ys n) : ∀ (q i : Nat) (ys : List Value) (n : List (Addr × Obj)), i + q = vs.length → J (vs.drop i) ys n → (ax, lo) ∈ n →
    LCt.CompRestT prog w A h₀ L m env ct elt x scope cl s (LCg.SrcAt h₀ ax vs.toArray) (fun i v => vs.toArray[i]? = some v) Fin q i ys n := by
  intro q
  induction q with
  | zero =>
    intro i ys n e hJ hm
    rw [List.drop_eq_nil_of_le (by lia  )] at hJ
    exact LCt.CompRestT.zero (done ys n hJ hm)
  | succ q ih =>
    intro i ys n e hJ hm
    refine LCt.CompRestT.succ fun v I oI C oC D m₂ h tk E' hv hC hx F N off ne => ?_
    rw [drop_cons hv] at hJ
    refine wpAny_mono (turn v _ ys n I oI C oC D m₂ h tk E' hJ hm hC hx F N off ne) (fun ok s' h' => ?_) fun _ _ e => e
    cases ok with
    | true =>
      rw [if_pos rfl] at h' ⊢
      refine wpAny_mono h' (fun y s'' h'' => ?_) fun _ _ e => e
      obtain ⟨h1, tk1, n', rfl, F', N', off', hK, hJ'⟩ := h''
      exact ⟨h1, tk1, n', rfl, F', N', off', .inr ⟨lo, hK, hc, k, hd⟩, ih (i + 1) _ n' (by lia  ) hJ' hK⟩
    | false =>
      rw [if_neg Bool.false_ne_true] at h' ⊢
      obtain ⟨h1, tk1, n', rfl, F', N', off', hK, hJ'⟩ := h'
      exact ⟨h1, tk1, n', rfl, F', N', off', .inr ⟨lo, hK, hc, k, hd⟩, ih (i + 1) _ n' (by lia  ) hJ' hK⟩
end
section
variable {prog : Program} {w : World} {A : Around} {E : Value → Shared → Prop} {s : Shared} {h₀ : Heap} {L : Addr} {m : Str → Option Value} {env : Env} {elt ct iter : Expr} {scope : Scope} {cl : List (Str × Addr)} {Fin : Shared → List Value → List (Addr × Obj) → Prop}
theorem src_U {x : Str} {ax : Addr} {vs : List Value} {ep : Nat} {news : List (Addr × Obj)} (J : List Value → List Value → List (Addr × Obj) → Prop)
    (hh : A.handled = none) (F : Fr h₀ L s.heap m) (N : News h₀ L s.heap news) (hm : (ax, lstO vs ep) ∈ news) (hsz : vs.length ≤ sizeLine) (hJ : J vs [] news)
    (turn : ∀ s' : Shared, (∃ g, s' = { s with heap := g }) → ∀ v r ys n I oI C oC D m₂ h tk (E' : Value → Shared → Prop), J (v :: r) ys n → (ax, lstO vs ep) ∈ n → LCg.NsObj oC m₂ → m₂ x = some v → Fr h₀ L h m → News h₀ L h ((I, oI) :: (C, oC) :: (D, LCg.lst ys) :: n) → LCg.Off3 I C D n → ((@Ne Nat I C) ∧ (@Ne Nat I D) ∧ (@Ne Nat C D)) →
      wpAny (model prog w) A (eval elt (compEnvC scope cl C env)) (CTo h₀ L m { s' with heap := h, toks := tk } I oI C oC D (LCg.lst ys) (ax, lstO vs ep) (fun y n' => J r (ys ++ [y]) n')) E' { s' with heap := h, toks := tk })
    (done : ∀ g ys n, J [] ys n → (ax, lstO vs ep) ∈ n → Fin { s with heap := g } ys n) :
    LCg.CompSrc prog w A h₀ L m env elt x scope cl Fin (.ref ax) s :=
  LCg.CompSrc.ledger hh F N hm (by simpa using hsz) fun g => cl_rest (lo := lstO vs ep) rfl rfl J (turn _ ⟨g, rfl⟩) (done g) _ 0 [] news (by simp) hJ hm
theorem src_T {x : Str} {ax : Addr} {vs : List Value} {ep : Nat} {news : List (Addr × Obj)} (J : List Value → List Value → List (Addr × Obj) → Prop)
    (hh : A.handled = none) (F : Fr h₀ L s.heap m) (N : News h₀ L s.heap news) (hm : (ax, lstO vs ep) ∈ news) (hsz : vs.length ≤ sizeLine) (hJ : J vs [] news)
    (turn : ∀ s' : Shared, (∃ g, s' = { s with heap := g }) → ∀ v r ys n I oI C oC D m₂ h tk (E' : Value → Shared → Prop), J (v :: r) ys n → (ax, lstO vs ep) ∈ n → LCg.NsObj oC m₂ → m₂ x = some v → Fr h₀ L h m → News h₀ L h ((I, oI) :: (C, oC) :: (D, LCg.lst ys) :: n) → LCg.Off3 I C D n → ((@Ne Nat I C) ∧ (@Ne Nat I D) ∧ (@Ne Nat C D)) →
      wpAny (model prog w) A (isTrue ct (compEnvC scope cl C env) (eval ct (compEnvC scope cl C env))) (fun ok s'' => if ok = true then
        wpAny (model prog w) A (eval elt (compEnvC scope cl C env)) (CTo h₀ L m { s' with heap := h, toks := tk } I oI C oC D (LCg.lst ys) (ax, lstO vs ep) (fun y n' => J r (ys ++ [y]) n')) E' s''
        else CTo h₀ L m { s' with heap := h, toks := tk } I oI C oC D (LCg.lst ys) (ax, lstO vs ep) (fun _ n' => J r ys n') Value.none s'') E' { s' with heap := h, toks := tk })
    (done : ∀ g ys n, J [] ys n → (ax, lstO vs ep) ∈ n → Fin { s with heap := g } ys n) :
    LCt.CompSrcT prog w A h₀ L m env ct elt x scope cl Fin (.ref ax) s :=
  LCt.CompSrcT.ledger hh F N hm (by simpa using hsz) fun g => cl_rest_T (lo := lstO vs ep) rfl rfl J (turn _ ⟨g, rfl⟩) (done g) _ 0 [] news (by simp) hJ hm
theorem src_P {x x₂ : Str} {ax : Addr} {vs : List Value} {ep : Nat} {news : List (Addr × Obj)} (J : List Value → List Value → List (Addr × Obj) → Prop)
    (hh : A.handled = none) (F : Fr h₀ L s.heap m) (N : News h₀ L s.heap news) (hm : (ax, lstO vs ep) ∈ news) (hsz : vs.length ≤ sizeLine) (hJ : J vs [] news)
    (turn : ∀ s' : Shared, (∃ g, s' = { s with heap := g }) → ∀ v r ys n, J (v :: r) ys n → (ax, lstO vs ep) ∈ n → ∃ t v₁ v₂, v = .ref t ∧ (t, tupO [v₁, v₂]) ∈ n ∧ ∀ I oI C oC D m₂ h tk (E' : Value → Shared → Prop), LCg.NsObj oC m₂ → m₂ x = some v₁ → m₂ x₂ = some v₂ → Fr h₀ L h m → News h₀ L h ((I, oI) :: (C, oC) :: (D, LCg.lst ys) :: n) → LCg.Off3 I C D n → ((@Ne Nat I C) ∧ (@Ne Nat I D) ∧ (@Ne Nat C D)) →
      wpAny (model prog w) A (eval elt (compEnvC scope cl C env)) (CTo h₀ L m { s' with heap := h, toks := tk } I oI C oC D (LCg.lst ys) (ax, lstO vs ep) (fun y n' => J r (ys ++ [y]) n')) E' { s' with heap := h, toks := tk })
    (done : ∀ g ys n, J [] ys n → (ax, lstO vs ep) ∈ n → Fin { s with heap := g } ys n) :
    LCp.SrcLP prog w A h₀ L m env elt x x₂ scope cl Fin (.ref ax) s :=
  LCp.SrcLP.ledger hh F N hm (by simpa using hsz) fun g => cl_rest_P (lo := lstO vs ep) rfl rfl J (turn _ ⟨g, rfl⟩) (done g) _ 0 [] news (by simp) hJ hm
end
end Mine

end
section -- W14
theorem Mine.off_W14 : True := by w_top off; trivial
open PySem PySem.W PyProof.Rows
set_option maxRecDepth 100000
namespace Mine
variable {w : World} {p : Program} {loose : List Str} {mean : ExcName → Option Value} {mg mb : Str → Option Value} {dp un : Nat} {gd : Option (List Code)} {cn : Str} {cs : Scope} {a : Addr} {ccd : Value} {cl : List (Str × Addr)} {outer : List Env} {A₀ : Around} {base h₀ : Heap} {L : Addr} {m : Str → Option Value} {news : List (Addr × Obj)} {s : Shared} {Q E : Value → Shared → Prop}
inductive SL : List Value → List Str → Prop
  | nil : SL [] []
  | cons {x : Str} {t : Tok} {vs : List Value} {l : List Str} (h : SL vs l) : SL (.str x t :: vs) (x :: l)
theorem SL.snoc {vs : List Value} {l : List Str} {x : Str} {t : Tok} (h : SL vs l) : SL (vs ++ [.str x t]) (l ++ [x]) := by
  induction h with
  | nil => exact .cons .nil
  | cons _ ih => exact .cons ih
set_option maxHeartbeats 8000000 in
theorem keys_c {l H D : Addr} {vs : List Value} {ep : Nat} {td : Tok} (B : Below A₀ base outer h₀) (F : Fr h₀ L s.heap m) (X : (hd.heap_1 w.params).In h₀) (N : News h₀ L s.heap news) (T : Top p loose mean mg mb h₀) (hk : cs.kind = .function) (hd : dp + 10 < recursionLimit) (hu : un + 80 < cLine)
  (mH : (H, instObj 276 D) ∈ news) (mD : (D, hdD w l td) ∈ news) (ml : (l, lstO vs ep) ∈ news) {ps : List (Str × Str)} (hp : PL news vs ps) (hsz : vs.length ≤ 1000)
  (ret : ∀ r ys h' tk', Fr h₀ L h' m → News h₀ L h' ((r, LCg.lst ys) :: news) → (∀ p ∈ news, p.1 ≠ r) → SL ys (ps.map (·.1)) → Q (.ref r) {s with heap := h', toks := tk'}) :
  wpAny (model PySem.Challenge.rw_wy0045_01.row.prog w) (ktrTop dp un gd cn cs L a ccd cl outer) (call (.ref 228) [.ref H]) Q E s := by
  refine wpAny_call ?_
  k_dflt (refine' code_def ?k1 ?k2 ?k3 ?k4 ?k5 ?kA ?kF ?kK ?k6 ?k7 ?k8 ?k9 ?kB ?_ ?c2 ?c3 ?c4 ?c5; (case kA => exact rfl); (case kF => exact rfl); (case kK => first | assumption | exact rfl); (case k1 => k_asm); (case k2 => k_asm); (case k3 => k_asm); (case k4 => k_asm); (case k5 => k_asm); (case k6 => k_is); (case k7 => k_is); (case k8 => ktr_room); (case k9 => first | exact BindsTo.of_eq rfl | exact binds_K (by k_in) rfl (by k_is) rfl rfl rfl); (case c5 => decide); (case kB => exact locs rfl); (case c2 => exact rfl); (case c3 => exact rfl); (case c4 => exact rfl); k_whole; intro g' L' h1' FG' F' N' B' X' T'; (try dsimp only); (try k_fold))
  repeat' (first | ((with_reducible show LCp.SrcLP _ _ _ _ _ _ _ _ _ _ _ _ _ _ _ ); refine Hold.out ?_) | ((with_reducible show wpAny _ _ (eval (Expr.ListComp _ _ _ _) _) _ _ _); (k_here; k_dflt (first | refine LCp.ListComp_P (F₀ := by k_asm) (by with_unfolding_all rfl) (by decide) (by rfl) (by decide) (by rfl) (by rfl) (by decide) ?_ | refine LCt.ListComp_T (F₀ := by k_asm) (by with_unfolding_all rfl) (by decide) (by rfl) (by decide) (by rfl) ?_ | refine LCg.ListComp_U (F₀ := by k_asm) (by with_unfolding_all rfl) (by decide) (by rfl) (by decide) (by rfl) ?_))) | (k_unfold; (try dsimp only)) | (k_end; kc_close) | walk1 | (dsimp only; first | ((with_reducible show LCp.SrcLP _ _ _ _ _ _ _ _ _ _ _ _ _ _ _ ); refine Hold.out ?_) | ((with_reducible show wpAny _ _ (eval (Expr.ListComp _ _ _ _) _) _ _ _); (k_here; k_dflt (first | refine LCp.ListComp_P (F₀ := by k_asm) (by with_unfolding_all rfl) (by decide) (by rfl) (by decide) (by rfl) (by rfl) (by decide) ?_ | refine LCt.ListComp_T (F₀ := by k_asm) (by with_unfolding_all rfl) (by decide) (by rfl) (by decide) (by rfl) ?_ | refine LCg.ListComp_U (F₀ := by k_asm) (by with_unfolding_all rfl) (by decide) (by rfl) (by decide) (by rfl) ?_))) | walk1) | (leave1; (try dsimp only)))
  refine Hold.mk (src_P (fun rem ys n => n = news ∧ ∃ rs ds, PL news rem rs ∧ SL ys ds ∧ ds ++ rs.map (·.1) = ps.map (·.1)) rfl F' N' ml (by rw [sizeLine_eq]; lia  ) ⟨rfl, ps, [], hp, .nil, rfl⟩ ?_ ?_)
  · rintro s' ⟨gg, rfl⟩ v r ys n ⟨rfl, rs, ds, hr, hs, e⟩ hm
    cases hr with | @cons a' k' v' tk' tv _ rl ha hr =>
    refine ⟨_, _, _, rfl, ha, ?_⟩
    intro I oI C oC D' m₂ h tk E' hC hx hx2 F3 N3 off ne
    clear F' N'
    k_steps
    exact CTo.mk F3 N3 off hm ⟨rfl, _, _, hr, hs.snoc, by simp [← e]⟩
  · rintro gg ys n ⟨rfl, rs, ds, hr, hs, e⟩ hm
    cases hr
    k_steps
    rename Fr _ _ _ _ => F4
    rename News _ _ _ _ => N4
    rename LCg.Off1 _ _ => o1
    have e' : ds = ps.map (·.1) := by simpa using e
    exact ret _ _ _ _ F4 N4 (off1_mem o1) (e' ▸ hs)
set_option maxHeartbeats 8000000 in
theorem items_c {l H D : Addr} {vs : List Value} {ep : Nat} {td : Tok} (B : Below A₀ base outer h₀) (F : Fr h₀ L s.heap m) (X : (hd.heap_1 w.params).In h₀) (N : News h₀ L s.heap news) (T : Top p loose mean mg mb h₀) (hk : cs.kind = .function) (hd : dp + 10 < recursionLimit) (hu : un + 80 < cLine)
  (mH : (H, instObj 276 D) ∈ news) (mD : (D, hdD w l td) ∈ news) (ml : (l, lstO vs ep) ∈ news) (hsz : vs.length ≤ 1000)
  (ret : ∀ r h' tk', Fr h₀ L h' m → News h₀ L h' ((r, lstO vs 0) :: news) → (∀ p ∈ news, p.1 < r) → Q (.ref r) {s with heap := h', toks := tk'}) :
  wpAny (model PySem.Challenge.rw_wy0045_01.row.prog w) (ktrTop dp un gd cn cs L a ccd cl outer) (call (.ref 240) [.ref H]) Q E s := by
  refine wpAny_call ?_
  k_dflt (refine' code_def ?k1 ?k2 ?k3 ?k4 ?k5 ?kA ?kF ?kK ?k6 ?k7 ?k8 ?k9 ?kB ?_ ?c2 ?c3 ?c4 ?c5; (case kA => exact rfl); (case kF => exact rfl); (case kK => first | assumption | exact rfl); (case k1 => k_asm); (case k2 => k_asm); (case k3 => k_asm); (case k4 => k_asm); (case k5 => k_asm); (case k6 => k_is); (case k7 => k_is); (case k8 => ktr_room); (case k9 => first | exact BindsTo.of_eq rfl | exact binds_K (by k_in) rfl (by k_is) rfl rfl rfl); (case c5 => decide); (case kB => exact locs rfl); (case c2 => exact rfl); (case c3 => exact rfl); (case c4 => exact rfl); k_whole; intro g' L' h1' FG' F' N' B' X' T'; (try dsimp only); (try k_fold))
  have hsz' : vs.toArray.size ≤ sizeLine := by rw [sizeLine_eq]; simp; lia  
  repeat' (first | ((with_reducible show wpAny _ _ (subscriptTail _ _ (Value.ref _) (Value.ref _)) _ _ _); (k_here; k_dflt (refine kms_slice_lit (by k_asm) (by k_asm) (by exact News.isList (by k_asm) (by k_mem)) (by kmk_part) (by kmk_part) (by exact pick_all _) ?_ (by with_unfolding_all rfl) (by kmk_pure) (by assumption)); intro _ _ _ _ _)) | (k_unfold; (try dsimp only)) | (k_end; kc_close) | walk1 | (dsimp only; first | ((with_reducible show wpAny _ _ (subscriptTail _ _ (Value.ref _) (Value.ref _)) _ _ _); (k_here; k_dflt (refine kms_slice_lit (by k_asm) (by k_asm) (by exact News.isList (by k_asm) (by k_mem)) (by kmk_part) (by kmk_part) (by exact pick_all _) ?_ (by with_unfolding_all rfl) (by kmk_pure) (by assumption)); intro _ _ _ _ _)) | walk1) | (leave1; (try dsimp only)))
  rename Fr _ _ _ _ => F4
  rename News _ _ _ _ => N4
  exact ret _ _ _ F4 N4 (by assumption)
end Mine

end
section -- P9
open PySem PySem.W PyProof.Rows
set_option maxRecDepth 100000
namespace Mine
section
variable {prog : Program} {w : World} {A : Around} {E : Value → Shared → Prop} {s : Shared} {h₀ : Heap} {L : Addr} {m : Str → Option Value}
theorem setSlice_all {l sl b : Addr} {items its2 : Array Value} {n n2 : Nat} {Q : Unit → Shared → Prop} (ho : s.heap.get? l = some (listOf items n)) (hs : s.heap.IsSliceOf sl .none .none .none) (hb : s.heap.get? b = some (listOf its2 n2)) (hlb : (l == b) = false)
    (hsz : items.size ≤ 100000) (hsz2 : its2.size ≤ 100000)
    (h : ∀ h' n', Heap.SameBut l s.heap h' → h'.get? l = some (listOf its2 n') → Q () { s with heap := h' }) :
    wpAny (model prog w) A (setItem (.ref l) (.ref sl) (.ref b)) Q E s := by
  have hl : s.heap.IsList l items := PySem.IsL.isList (n := n) ho
  have hlb2 : s.heap.IsList b its2 := PySem.IsL.isList (n := n2) hb
  obtain ⟨os, hos, hcs, hds⟩ := id hs
  have hTs : s.TypeIs (.ref sl) "slice" := ⟨os, hos, hcs⟩
  unfold setItem
  try with_reducible refine wpAny_holding ?_
  first | refine wpAny_bind (wpAny_pure ?_) | skip
  refine wpAny_bind (wpAny_sequenceKey hl.typeIs (by decide) ?_)
  refine wpAny_bind (wpAny_callSpecial?_slot (name := Str.ofString "__setitem__") hl.typeIs slot_list_setitem
    (wpAny_call_entry slot_list_setitem hl.typeIs entry_list_setitem ?_ (args_list_setitem _ _ _)))
  show wpAny _ _ (Builtin.List.listSubscript? (.ref sl) >>= _) _ _ s
  refine wpAny_bind ?_
  unfold Builtin.List.listSubscript?
  refine wpAny_bind (wpAny_specialOf hTs slice_no_index ?_)
  simp only [Option.isNone_none, if_true]
  refine wpAny_pure ?_
  show wpAny _ _ (typeOf (.ref sl) >>= _) _ _ s
  refine wpAny_bind (wpAny_typeOf hTs ?_)
  rw [if_neg (by decide)]
  rw [listSliceParts_eq]
  refine wpAny_bind (wpAny_bind (wpAny_field hos hds (x := .none) rfl (wpAny_bind (wpAny_listPart .none ?_))))
  rw [if_neg (by decide)]
  refine wpAny_bind (wpAny_field hos hds (x := .none) rfl (wpAny_bind (wpAny_listPart .none ?_)))
  refine wpAny_bind (wpAny_field hos hds (x := .none) rfl (wpAny_bind (wpAny_listPart .none (wpAny_pure ?_))))
  have e1 : Builtin.List.listSameRef (.ref l) (.ref b) = false := hlb
  dsimp only
  rw [e1]
  simp only [Bool.false_eq_true, if_false]
  refine wpAny_bind ?_
  unfold Builtin.List.listAllItems
  refine wpAny_bind (wpAny_typeOf hlb2.typeIs ?_)
  rw [if_pos (by decide)]
  refine listItems_at hb rfl ?_
  refine wpAny_bind (listItems_at ho rfl ?_)
  refine wpAny_bind (wpAny_of_eq (sliceIndices_raw none none none items.size (by simp)) ?_)
  have e2 : sliceBounds none none none items.size = (0, (items.size : Int), 1) := by simp [sliceBounds]
  rw [e2]
  simp only [beq_self_eq_true, if_true]
  refine wpAny_bind (wpAny_rule ?_)
  have e3 : Builtin.List.listTooLong (items.size + its2.size) = false := by unfold Builtin.List.listTooLong; exact decide_eq_false (by rw [sizeLine_eq]; lia  )
  rw [e3]
  simp only [Bool.false_eq_true, if_false]
  have e4 : (max (0 : Int) (items.size : Int)).toNat = items.size := by lia  
  rw [e4]
  have e5 : (items.extract 0 (Int.toNat 0) ++ its2 ++ items.extract items.size) = its2 := by simp
  refine wpAny_bind (listUpdate_at ho rfl ?_ (by rw [sizeLine_eq]; lia  ) (by rw [sizeLine_eq, e5]; lia  ))
  refine wpAny_bind (wpAny_letGo ?_)
  refine wpAny_pure ⟨.none, rfl, wpAny_pure ?_⟩
  refine h _ (if its2.size == items.size then n else n + 1) (Heap.SameBut.update ..) ?_
  rw [Heap.get?_update_self _ ho (by simp only [Obj.mapSeq]; rfl)]
  simp only [Obj.mapSeq, e5]
theorem setSlice_P {l b : Addr} {vs ys : List Value} {n n2 : Nat} {nn : List (Addr × Obj)} {Q : Unit → Shared → Prop} (F : Fr h₀ L s.heap m) (N : News h₀ L s.heap nn) (hm : (l, lstO vs n) ∈ nn) (hb : (b, lstO ys n2) ∈ nn) (hlb : l ≠ b)
    (hsz : vs.length ≤ 100000) (hsz2 : ys.length ≤ 100000) (rest : List (Addr × Obj)) (hr : ∀ p ∈ rest, p ∈ nn ∧ p.1 ≠ l)
    (h : ∀ h' n', Fr h₀ L h' m → News h₀ L h' ((l, lstO ys n') :: rest) → Q () { s with heap := h' }) :
    wpAny (model prog w) A (setItem (.ref l) (.ref s.heap.objs.size) (.ref b)) Q E { s with heap := s.heap.push { cls := .type "slice", data := .fields #[.none, .none, .none] } } := by
  have up : ∀ b o, s.heap.get? b = some o → (s.heap.push { cls := .type "slice", data := .fields #[.none, .none, .none] }).get? b = some o := fun b o e => Heap.get?_push_of_some _ e
  have F1 : Fr h₀ L (s.heap.push { cls := .type "slice", data := .fields #[.none, .none, .none] }) m := F.push _
  have N1 := N.grown up
  refine setSlice_all (s := { s with heap := s.heap.push { cls := .type "slice", data := .fields #[.none, .none, .none] } }) (N1 _ hm).1 (Heap.IsSliceOf.new ..) (N1 _ hb).1 (by simpa using hlb) (by simpa using hsz) (by simpa using hsz2) fun h' n' hs ho' => ?_
  refine h h' n' (F1.change hs (N1 _ hm).2.1 (N1 _ hm).2.2) fun p hp => ?_
  rcases List.mem_cons.mp hp with rfl | hp
  · exact ⟨ho', (N1 _ hm).2⟩
  · have z := N1 p (hr p hp).1
    exact ⟨(hs.2 _ (hr p hp).2).trans z.1, z.2⟩
end
section
variable {M : Model} {A : Around} {E : Value → Shared → Prop} {s : Shared} {K : Frag} {x C L f : Addr} {h₀ : Heap} {m : Str → Option Value} {ox : Obj} {od : Option Obj} {i v : Value}
theorem own_delItem {Q : Unit → Shared → Prop} (F : Fr h₀ L s.heap m) (X₀ : K.In h₀) (I : InstAt s.heap x ox C od) (hq : noSeq K C = true) (hs : findIn K (.ref C) "__delitem__" = some (some (.ref f))) (hf : isFn K (.ref f) = true)
    (h : wpAny M A (call (.ref f) [.ref x, i]) (fun _ s' => Q () s') E s) : wpAny M A (delItem (.ref x) i) Q E s := by
  unfold delItem sequenceKey
  refine wpAny_holding (wpAny_bind (wpAny_bind (I.type.here (wpAny_bind ((anyM_none (X₀.keeps F.keep) hq).here ?_)))))
  rw [if_pos (show (!false) = true from rfl)]
  exact wpAny_pure (wpAny_bind (special_fn (X₀.keeps F.keep) I hs (beq_iff_eq.mp hf) (wpAny_mono h (fun _ _ z => wpAny_pure z) fun _ _ z => z)))
end
theorem PL.filter_sz {n : List (Addr × Obj)} {vs vs' : List Value} {ps : List (Str × Str)} {f : Str × Str → Bool} (h : PL n vs' (ps.filter f)) (hp : PL n vs ps) (h1 : vs.length ≤ 1000) : vs'.length + 1 ≤ sizeLine := by
  have h2 := h.len
  have h3 := hp.len
  have h4 := List.length_filter_le f ps
  rw [sizeLine_eq]; lia  
end Mine

end
section -- W15
theorem Mine.off_W15 : True := by w_top off; trivial
open PySem PySem.W PyProof.Rows
set_option maxRecDepth 100000
namespace Mine
variable {w : World} {p : Program} {loose : List Str} {mean : ExcName → Option Value} {mg mb : Str → Option Value} {dp un : Nat} {gd : Option (List Code)} {cn : Str} {cs : Scope} {a : Addr} {ccd : Value} {cl : List (Str × Addr)} {outer : List Env} {A₀ : Around} {base h₀ : Heap} {L : Addr} {m : Str → Option Value} {news : List (Addr × Obj)} {s : Shared} {Q E : Value → Shared → Prop}
set_option maxHeartbeats 8000000 in
theorem delitem_c {l H D : Addr} {vs : List Value} {ep : Nat} {td : Tok} (B : Below A₀ base outer h₀) (F : Fr h₀ L s.heap m) (X : (hd.heap_1 w.params).In h₀) (N : News h₀ L s.heap ((l, lstO vs ep) :: news)) (T : Top p loose mean mg mb h₀) (hk : cs.kind = .function) (hd : dp + 10 < recursionLimit) (hu : un + 80 < cLine)
  (hl : ∀ p ∈ news, p.1 ≠ l) (mH : (H, instObj 276 D) ∈ news) (mD : (D, hdD w l td) ∈ news) {ps : List (Str × Str)} {n0 : List (Addr × Obj)} (hp : PL n0 vs ps) (hs0 : ∀ p ∈ n0, p ∈ news) (op : OkP ps) (hsz : vs.length ≤ 1000)
  {nm : Str} {tn : Tok} (on : OkS nm) (oln : OkS (Txt.lower nm))
  (ret : ∀ vs' ep' h' tk', Fr h₀ L h' m → News h₀ L h' ((l, lstO vs' ep') :: news) → PL n0 vs' (ps.filter (fun p => !(Txt.lower p.1 == Txt.lower nm))) → Q .none {s with heap := h', toks := tk'}) :
  wpAny (model PySem.Challenge.rw_wy0045_01.row.prog w) (ktrTop dp un gd cn cs L a ccd cl outer) (call (.ref 194) [.ref H, .str nm tn]) Q E s := by
  refine wpAny_call ?_
  k_dflt (refine' code_defC ?k1 ?k2 ?k3 ?k4 ?k5 ?kA ?kF ?kK ?k6 ?k7 ?k8 ?k9 ?kB ?kD ?_ ?c2 ?c3 ?c4; (case kA => exact rfl); (case kF => exact rfl); (case kK => first | assumption | exact rfl); (case k1 => k_asm); (case k2 => k_asm); (case k3 => k_asm); (case k4 => k_asm); (case k5 => k_asm); (case k6 => k_is); (case k7 => k_is); (case k8 => ktr_room); (case k9 => first | exact BindsTo.of_eq rfl | exact binds_K (by k_in) rfl (by k_is) rfl rfl rfl); (case kB => exact rfl); (case kD => decide +kernel); (case c2 => exact rfl); (case c3 => exact rfl); (case c4 => exact rfl); k_whole; intro g' L' h1' tk1 cells' FG' F' N' Y' B' X' T' l1; k_cells Y'; (try simp only [List.cons_append, List.nil_append] at N'); (try dsimp only); (try k_fold))
  rename_i o0 d0
  have lL : l < L' := l1 (l, lstO vs ep) (.head _)
  k_lt2 lL
  have allL : ∀ p ∈ news, p.1 ≠ L' + 1 := fun p hp => Nat.ne_of_lt (Nat.lt_succ_of_lt (l1 p (.tail _ hp)))
  refine exec_split 1 (fun s' => ∀ PP : Prop, (∀ h' tk m' t o, (s' = { s with heap := h', toks := tk }) → (Fr g' L' h' m') → (News g' L' h' ((L' + 1, o) :: (l, lstO vs ep) :: news)) → (m' (Str.ofString "self") = some (.ref H)) → (o.data = .cell (some (.str (Txt.lower nm) t))) → PP) → PP) ?_ ?_
  · refine opq ?_
    intro QQ EE hQQ
    dsimp only [List.take]
    repeat' (first | ((with_reducible show wpAny _ _ (PySem.call (Value.builtin "str.lower") _ _) _ _ _); (k_here; k_dflt (refine call_lower (by assumption) ?_))) | ((with_reducible show wpAny _ _ (PySem.call (Value.ref _) _ _) _ _ _); (k_here; (with_reducible show wpAny _ _ (call (Value.ref 175) _ _) _ _ _); k_dflt (refine convert_c (by k_asm) (by with_reducible assumption) (by k_asm) (by with_reducible assumption) (by k_asm) rfl (by first | exact rmN (k := 6) hd rfl | exact rmN (k := 11) hd rfl | exact rmN (k := 16) hd rfl | exact rmN (k := 21) hd rfl | exact rmN (k := 26) hd rfl | ((try dsimp only [ktrTop]); omega)) (by first | exact rmN (k := 43) hu rfl | exact rmN (k := 83) hu rfl | exact rmN (k := 123) hu rfl | exact rmN (k := 163) hu rfl | ((try dsimp only [ktrTop]); omega)) (by assumption) ?_); intro _ _ _ _ _)) | (k_unfold; (try dsimp only)) | (k_end; kc_close) | walk1 | (dsimp only; first | ((with_reducible show wpAny _ _ (PySem.call (Value.builtin "str.lower") _ _) _ _ _); (k_here; k_dflt (refine call_lower (by assumption) ?_))) | ((with_reducible show wpAny _ _ (PySem.call (Value.ref _) _ _) _ _ _); (k_here; (with_reducible show wpAny _ _ (call (Value.ref 175) _ _) _ _ _); k_dflt (refine convert_c (by k_asm) (by with_reducible assumption) (by k_asm) (by with_reducible assumption) (by k_asm) rfl (by first | exact rmN (k := 6) hd rfl | exact rmN (k := 11) hd rfl | exact rmN (k := 16) hd rfl | exact rmN (k := 21) hd rfl | exact rmN (k := 26) hd rfl | ((try dsimp only [ktrTop]); omega)) (by first | exact rmN (k := 43) hu rfl | exact rmN (k := 83) hu rfl | exact rmN (k := 123) hu rfl | exact rmN (k := 163) hu rfl | ((try dsimp only [ktrTop]); omega)) (by assumption) ?_); intro _ _ _ _ _)) | walk1) | (leave1; (try dsimp only)))
    rename Fr _ _ _ _ => F3
    rename News _ _ _ _ => N3
    refine hQQ _ _ ?_
    exact Hold.mk ⟨rfl, fun PP kk => kk _ _ _ _ _ rfl F3 N3 rfl (by assumption)⟩
  clear F' N' d0
  dsimp only [List.drop]
  intro s' hPP
  refine hPP _ ?_
  clear hPP
  rintro h' tk m' t oc rfl F1 N1 q1 q2
  repeat' (first | ((with_reducible show LCt.CompSrcT _ _ _ _ _ _ _ _ _ _ _ _ _ _ _ ); refine Hold.out ?_) | ((with_reducible show wpAny _ _ (eval (Expr.ListComp _ _ _ _) _) _ _ _); (k_here; k_dflt (first | refine LCt.ListComp_T (F₀ := by k_asm) (by with_unfolding_all rfl) (by decide) (by rfl) (by decide) (by rfl) ?_ | refine LCg.ListComp_U (F₀ := by k_asm) (by with_unfolding_all rfl) (by decide) (by rfl) (by decide) (by rfl) ?_ | refine LCp.ListComp_P (F₀ := by k_asm) (by with_unfolding_all rfl) (by decide) (by rfl) (by decide) (by rfl) (by rfl) (by decide) ?_))) | (k_unfold; (try dsimp only)) | (k_end; kc_close) | walk1 | (dsimp only; first | ((with_reducible show LCt.CompSrcT _ _ _ _ _ _ _ _ _ _ _ _ _ _ _ ); refine Hold.out ?_) | ((with_reducible show wpAny _ _ (eval (Expr.ListComp _ _ _ _) _) _ _ _); (k_here; k_dflt (first | refine LCt.ListComp_T (F₀ := by k_asm) (by with_unfolding_all rfl) (by decide) (by rfl) (by decide) (by rfl) ?_ | refine LCg.ListComp_U (F₀ := by k_asm) (by with_unfolding_all rfl) (by decide) (by rfl) (by decide) (by rfl) ?_ | refine LCp.ListComp_P (F₀ := by k_asm) (by with_unfolding_all rfl) (by decide) (by rfl) (by decide) (by rfl) (by rfl) (by decide) ?_))) | walk1) | (leave1; (try dsimp only)))
  refine Hold.mk (src_T (fun rem ys n => n = ((L' + 1, oc) :: (l, lstO vs ep) :: news) ∧ ∃ rs ds, PL n0 rem rs ∧ OkP rs ∧ PL n0 ys (ds.filter (fun p => !(Txt.lower p.1 == Txt.lower nm))) ∧ ds ++ rs = ps) rfl F1 N1 (.tail _ (.head _)) (by rw [sizeLine_eq]; omega) ⟨rfl, ps, [], hp, op, .nil, rfl⟩ ?_ ?_)
  · rintro s' ⟨gg, rfl⟩ v r ys n I oI C oC D' m₂ h tk E' ⟨rfl, rs, ds, hr, hor, hs, e⟩ hm hC hx F3 N3 off ne
    clear F1 N1
    cases hr with | @cons a' k' v' tk' tv _ rl ha hr =>
    have k1 := hor.head.1
    have ha' : (a', tupO [.str k' tk', .str v' tv]) ∈ (I, oI) :: (C, oC) :: (D', LCg.lst ys) :: (L' + 1, oc) :: (l, lstO vs ep) :: news := .tail _ (.tail _ (.tail _ (.tail _ (.tail _ (hs0 _ ha)))))
    repeat' (first | ((with_reducible show wpAny _ _ (PySem.call (Value.builtin "str.lower") _ _) _ _ _); (k_here; k_dflt (refine call_lower (by assumption) ?_))) | (k_unfold; (try dsimp only)) | (k_end; kc_close) | walk1 | (dsimp only; first | ((with_reducible show wpAny _ _ (PySem.call (Value.builtin "str.lower") _ _) _ _ _); (k_here; k_dflt (refine call_lower (by assumption) ?_))) | walk1) | (leave1; (try dsimp only)))
    · rename (Txt.lower k' != Txt.lower nm) = true => hc
      refine CTo.mk F3 N3 off hm ⟨rfl, _, ds ++ [(k', v')], hr, hor.tail, ?_, by simp [← e]⟩
      rw [List.filter_append]
      refine hs.append ?_
      simp only [List.filter_cons, List.filter_nil]
      rw [show (!Txt.lower k' == Txt.lower nm) = true from hc, if_pos rfl]
      exact .cons ha .nil
    · rename (Txt.lower k' != Txt.lower nm) = false => hc
      refine CTo.mk F3 N3 off hm ⟨rfl, _, ds ++ [(k', v')], hr, hor.tail, ?_, by simp [← e]⟩
      rw [List.filter_append]
      simp only [List.filter_cons, List.filter_nil]
      rw [if_neg (by rw [show (!Txt.lower k' == Txt.lower nm) = false from hc]; exact Bool.false_ne_true), List.append_nil]
      exact hs
  · rintro gg ys n ⟨rfl, rs, ds, hr, _, hs, e⟩ hm
    cases hr
    have e' : ds = ps := by simpa using e
    subst e'
    have ly : ys.length ≤ 100000 := by
      have h1 := hs.len
      have h2 := List.length_filter_le (fun p => !(Txt.lower p.1 == Txt.lower nm)) ds
      have h3 := hp.len
      omega
    k_steps
    rename Fr _ _ _ _ => F4
    rename News _ _ _ _ => N4
    rename _ ∧ _ => o2
    refine setSlice_P (vs := vs) (ys := ys) F4 N4 (.tail _ (.tail _ (.head _))) (.head _) o2.2.1 (by omega) ly news (fun p hp => ⟨.tail _ (.tail _ (.tail _ hp)), hl p hp⟩) (fun h5 n5 F5 N5 => ?_)
    k_steps
    rename Fr _ _ _ _ => F6
    rename News _ _ _ _ => N6
    exact ret _ _ _ _ F6 N6 hs
end Mine

end
section -- W16
theorem Mine.off_W16 : True := by w_top off; trivial
open PySem PySem.W PyProof.Rows
set_option maxRecDepth 100000
namespace Mine
variable {w : World} {p : Program} {loose : List Str} {mean : ExcName → Option Value} {mg mb : Str → Option Value} {dp un : Nat} {gd : Option (List Code)} {cn : Str} {cs : Scope} {a : Addr} {ccd : Value} {cl : List (Str × Addr)} {outer : List Env} {A₀ : Around} {base h₀ : Heap} {L : Addr} {m : Str → Option Value} {news : List (Addr × Obj)} {s : Shared} {Q E : Value → Shared → Prop}
set_option maxHeartbeats 8000000 in
theorem setitem_c {l H D : Addr} {vs : List Value} {ep : Nat} {td : Tok} (B : Below A₀ base outer h₀) (F : Fr h₀ L s.heap m) (X : (hd.heap_1 w.params).In h₀) (N : News h₀ L s.heap ((l, lstO vs ep) :: news)) (T : Top p loose mean mg mb h₀) (hk : cs.kind = .function) (hd : dp + 20 < recursionLimit) (hu : un + 160 < cLine)
  (hl : ∀ p ∈ news, p.1 ≠ l) (mH : (H, instObj 276 D) ∈ news) (mD : (D, hdD w l td) ∈ news) {ps : List (Str × Str)} {n0 : List (Addr × Obj)} (hp : PL n0 vs ps) (hs0 : ∀ p ∈ n0, p ∈ news) (op : OkP ps) (hsz : vs.length ≤ 1000)
  {nm v : Str} {tn tv : Tok} (on : OkS nm) (oln : OkS (Txt.lower nm)) (ov : OkS v)
  (ret : ∀ vs' T t1 t2 ep' h' tk', Fr h₀ L h' m → News h₀ L h' ((l, lstO (vs' ++ [.ref T]) ep') :: (T, tupO [.str nm t1, .str v t2]) :: news) → (∀ p ∈ news, p.1 < T) → l < T → PL n0 vs' (ps.filter (fun p => !(Txt.lower p.1 == Txt.lower nm))) → Q .none {s with heap := h', toks := tk'}) :
  wpAny (model PySem.Challenge.rw_wy0045_01.row.prog w) (ktrTop dp un gd cn cs L a ccd cl outer) (call (.ref 189) [.ref H, .str nm tn, .str v tv]) Q E s := by
  refine wpAny_call ?_
  k_dflt (refine' code_def ?k1 ?k2 ?k3 ?k4 ?k5 ?kA ?kF ?kK ?k6 ?k7 ?k8 ?k9 ?kB ?_ ?c2 ?c3 ?c4 ?c5; (case kA => exact rfl); (case kF => exact rfl); (case kK => first | assumption | exact rfl); (case k1 => k_asm); (case k2 => k_asm); (case k3 => k_asm); (case k4 => k_asm); (case k5 => k_asm); (case k6 => k_is); (case k7 => k_is); (case k8 => ktr_room); (case k9 => first | exact BindsTo.of_eq rfl | exact binds_K (by k_in) rfl (by k_is) rfl rfl rfl); (case c5 => decide); (case kB => exact locs rfl); (case c2 => exact rfl); (case c3 => exact rfl); (case c4 => exact rfl); k_whole; intro g' L' h1' FG' F' N' B' X' T'; (try dsimp only); (try k_fold))
  repeat' (first | ((with_reducible show wpAny _ _ (PySem.call (Value.ref _) _ _) _ _ _); (k_here; (with_reducible show wpAny _ _ (call (Value.ref 194) _) _ _ _); k_dflt (refine delitem_c (by k_asm) (by with_reducible assumption) (by k_asm) (by with_reducible assumption) (by k_asm) rfl (by first | exact rmN (k := 6) hd rfl | exact rmN (k := 11) hd rfl | exact rmN (k := 16) hd rfl | exact rmN (k := 21) hd rfl | exact rmN (k := 26) hd rfl | ((try dsimp only [ktrTop]); omega)) (by first | exact rmN (k := 43) hu rfl | exact rmN (k := 83) hu rfl | exact rmN (k := 123) hu rfl | exact rmN (k := 163) hu rfl | ((try dsimp only [ktrTop]); omega)) (by assumption) (by assumption) (by assumption) (by assumption) (by assumption) (by assumption) (by assumption) (by assumption) (by assumption) ?_); intro vs' ep' hC tC FC NC pCq'; (have szvq' := PL.filter_sz pCq' (by assumption) (by assumption)))) | ((with_reducible show wpAny _ _ (delItem (Value.ref _) (Value.str _ _)) _ _ _); (k_here; k_dflt (refine own_delItem (by k_asm) (by k_asm) (by k_inst) (by k_is) (by k_is) (by k_is) ?_))) | ((with_reducible show wpAny _ _ (PySem.call (Value.ref _) _ _) _ _ _); (k_here; (with_reducible show wpAny _ _ (call (Value.ref 175) _ _) _ _ _); k_dflt (refine convert_c (by k_asm) (by with_reducible assumption) (by k_asm) (by with_reducible assumption) (by k_asm) rfl (by first | exact rmN (k := 6) hd rfl | exact rmN (k := 11) hd rfl | exact rmN (k := 16) hd rfl | exact rmN (k := 21) hd rfl | exact rmN (k := 26) hd rfl | ((try dsimp only [ktrTop]); omega)) (by first | exact rmN (k := 43) hu rfl | exact rmN (k := 83) hu rfl | exact rmN (k := 123) hu rfl | exact rmN (k := 163) hu rfl | ((try dsimp only [ktrTop]); omega)) (by assumption) ?_); intro _ _ _ _ _)) | (k_unfold; (try dsimp only)) | (k_end; kc_close) | walk1 | (dsimp only; first | ((with_reducible show wpAny _ _ (PySem.call (Value.ref _) _ _) _ _ _); (k_here; (with_reducible show wpAny _ _ (call (Value.ref 194) _) _ _ _); k_dflt (refine delitem_c (by k_asm) (by with_reducible assumption) (by k_asm) (by with_reducible assumption) (by k_asm) rfl (by first | exact rmN (k := 6) hd rfl | exact rmN (k := 11) hd rfl | exact rmN (k := 16) hd rfl | exact rmN (k := 21) hd rfl | exact rmN (k := 26) hd rfl | ((try dsimp only [ktrTop]); omega)) (by first | exact rmN (k := 43) hu rfl | exact rmN (k := 83) hu rfl | exact rmN (k := 123) hu rfl | exact rmN (k := 163) hu rfl | ((try dsimp only [ktrTop]); omega)) (by assumption) (by assumption) (by assumption) (by assumption) (by assumption) (by assumption) (by assumption) (by assumption) (by assumption) ?_); intro vs' ep' hC tC FC NC pCq'; (have szvq' := PL.filter_sz pCq' (by assumption) (by assumption)))) | ((with_reducible show wpAny _ _ (delItem (Value.ref _) (Value.str _ _)) _ _ _); (k_here; k_dflt (refine own_delItem (by k_asm) (by k_asm) (by k_inst) (by k_is) (by k_is) (by k_is) ?_))) | ((with_reducible show wpAny _ _ (PySem.call (Value.ref _) _ _) _ _ _); (k_here; (with_reducible show wpAny _ _ (call (Value.ref 175) _ _) _ _ _); k_dflt (refine convert_c (by k_asm) (by with_reducible assumption) (by k_asm) (by with_reducible assumption) (by k_asm) rfl (by first | exact rmN (k := 6) hd rfl | exact rmN (k := 11) hd rfl | exact rmN (k := 16) hd rfl | exact rmN (k := 21) hd rfl | exact rmN (k := 26) hd rfl | ((try dsimp only [ktrTop]); omega)) (by first | exact rmN (k := 43) hu rfl | exact rmN (k := 83) hu rfl | exact rmN (k := 123) hu rfl | exact rmN (k := 163) hu rfl | ((try dsimp only [ktrTop]); omega)) (by assumption) ?_); intro _ _ _ _ _)) | walk1) | (leave1; (try dsimp only)))
  rename Fr _ _ _ _ => F4
  rename News _ _ _ _ => N4
  rename _ ∧ _ => l2
  simp only [List.push_toArray] at N4
  exact ret _ _ _ _ _ _ _ F4 (News.swap N4) (of_allLt l2.2) l2.1 (by assumption)
end Mine

end
section -- P10
open PySem PySem.W PyProof.Rows
set_option maxRecDepth 100000
namespace Mine
open PySem.F
theorem lk_str_getitem : typeLookup (.type "str") "__getitem__" = pure (some (.builtin "str.__getitem__")) := by rw [typeLookup_type, builtinLookup_eq_fast]; kernel_rfl
theorem ty_str_getitem : typeOf (.builtin "str.__getitem__") = pure (.type "wrapper_descriptor") := by kernel_rfl
theorem slot_wd_get : Slot "wrapper_descriptor" "__get__" "wrapper_descriptor.__get__" :=
  .of (owner := "wrapper_descriptor") (n := "__get__") (by rw [typeLookup_type, builtinLookup_eq_fast]; kernel_rfl) (by decide +kernel) (by decide +kernel) (by decide +kernel)
    (by first | exact .inl (by decide +kernel) | exact .inr (by decide +kernel)) (by rw [isSubtype_type]; kernel_rfl)
theorem lk_wd_set : typeLookup (.type "wrapper_descriptor") "__set__" = pure none := by rw [typeLookup_type, builtinLookup_eq_fast]; kernel_rfl
theorem lk_wd_delete : typeLookup (.type "wrapper_descriptor") "__delete__" = pure none := by rw [typeLookup_type, builtinLookup_eq_fast]; kernel_rfl
theorem entry_wd_get : entryFor table "wrapper_descriptor.__get__" = some Builtin.«wrapper_descriptor.__get__» := entryFor_of_tree (by kernel_rfl)
theorem args_wd_get (a b c : Value) : argsOk "wrapper_descriptor.__get__" ⟨[a, b, c], []⟩ := by unfold argsOk; kernel_rfl
theorem owner_str_getitem : (".".intercalate ("str.__getitem__".cutAt '.').dropLast) = "str" := by
  have e0 : "str.__getitem__".cutAt '.' = ["str", "__getitem__"] := by first | rfl | decide +kernel
  rw [e0]; decide +kernel
theorem sub_str_str : isSubtype (.type "str") (.type (".".intercalate ("str.__getitem__".cutAt '.').dropLast)) = pure true := by
  rw [owner_str_getitem, isSubtype_type]; kernel_rfl
section
variable {prog : Program} {w : World} {A : Around} {E : Value → Shared → Prop} {h : Heap} {g : Array GenState} {d : Drawn} {t : Nat} {os : OsState} {x : Str} {u : Tok}
theorem gi_get {R : Result → Shared → Prop} (hq : ∀ o, R (.ok (.ret (.ref h.objs.size))) ⟨h.push o, g, d, t, os⟩) :
    codeAny (model prog w) A (.call (.builtin "wrapper_descriptor.__get__") ⟨[.builtin "str.__getitem__", .str x u, .type "str"], []⟩) R ⟨h, g, d, t, os⟩ := by
  have hT : (⟨h, g, d, t, os⟩ : Shared).TypeIs (.str x u) "str" := rfl
  have hT5 : (⟨h, g, d, t, os⟩ : Shared).TypeIs (.builtin "str.__getitem__") "wrapper_descriptor" := ty_str_getitem
  have f8 := sub_str_str
  refine codeAny_call_builtin slot_wd_get.plain entry_wd_get (slot_wd_get.check _ _ _ _ _ _ _ _ hT5 (args_wd_get _ _ _) ?_)
  repeat (any_goals (first | assumption | wp_step))
  exact hq _
theorem gi_entry {tk : Tok} {Q : Fin → Shared → Prop} (hq : ∀ o, Q (.done (.ret (.ref h.objs.size))) ⟨h.push o, g, d, t, os⟩) :
    wpAny (model prog w) A (Builtin.«object.__getattribute__» ⟨[.str x u, .str "__getitem__" tk], []⟩) Q E ⟨h, g, d, t, os⟩ := by
  have hT : (⟨h, g, d, t, os⟩ : Shared).TypeIs (.str x u) "str" := rfl
  have hT5 : (⟨h, g, d, t, os⟩ : Shared).TypeIs (.builtin "str.__getitem__") "wrapper_descriptor" := ty_str_getitem
  have f4 := lk_str_getitem
  have f5 := ty_str_getitem
  have f6 := slot_wd_get.lookup
  have f7 := lk_wd_set
  have f8 := lk_wd_delete
  repeat (any_goals (first | assumption | wp_step))
  refine gi_get fun o => ?_
  have hq' := hq o
  repeat (any_goals (first | assumption | wp_step))
theorem gi_call {tk : Tok} {R : Result → Shared → Prop} (hq : ∀ o, R (.ok (.ret (.ref h.objs.size))) ⟨h.push o, g, d, t, os⟩) :
    codeAny (model prog w) A (.call (.builtin "object.__getattribute__") ⟨[.str x u, .str "__getitem__" tk], []⟩) R ⟨h, g, d, t, os⟩ :=
  codeAny_call_builtin F.slot_str_getattribute.plain F.entry_object_getattribute (F.slot_str_getattribute.check _ _ _ _ _ _ _ _ (show (⟨h, g, d, t, os⟩ : Shared).TypeIs (.str x u) "str" from rfl) (F.args_object_getattribute_2 _ _) (gi_entry hq))
theorem gi_by {tk : Tok} {Q : Value → Shared → Prop} (hq : ∀ o, Q (.ref h.objs.size) ⟨h.push o, g, d, t, os⟩) : wpAny (model prog w) A (getAttrBy (.str x u) (.str "__getitem__" tk) false) Q E ⟨h, g, d, t, os⟩ := by
  have hT : (⟨h, g, d, t, os⟩ : Shared).TypeIs (.str x u) "str" := rfl
  have f2 := F.slot_str_getattribute.lookup
  have f3 := F.slot_str_getattribute.bind (.str x u)
  repeat (any_goals (first | assumption | wp_step))
  refine gi_call fun o => ?_
  have hq' := hq o
  repeat (any_goals (first | assumption | wp_step))
theorem ha_kind : builtinKind "hasattr" = none := by decide +kernel
theorem ha_plain : plainId "hasattr" = true := by decide +kernel
theorem ha_entry : entryFor table "hasattr" = some Builtin.«hasattr» := entryFor_of_tree (by kernel_rfl)
theorem ha_args (a b : Value) : argsOk "hasattr" ⟨[a, b], []⟩ := by unfold argsOk; kernel_rfl
theorem lk_str_ga : typeLookup (.type "str") "__getattribute__" = pure (some (.builtin "object.__getattribute__")) := F.slot_str_getattribute.lookup
theorem call_hasattr {tk : Tok} {Q : Value → Shared → Prop} (hq : ∀ o, Q (.bool true) ⟨h.push o, g, d, t, os⟩) : wpAny (model prog w) A (call (.builtin "hasattr") [.str x u, .str "__getitem__" tk]) Q E ⟨h, g, d, t, os⟩ := by
  have hT : (⟨h, g, d, t, os⟩ : Shared).TypeIs (.str x u) "str" := rfl
  have f4 := lk_str_getitem
  have f2 := lk_str_ga
  refine Calls.call_function_entry ha_kind ha_plain ha_entry (ha_args _ _) ?_
  unfold Builtin.«hasattr»
  refine wpAny_bind (wpAny_of_eq (a := [.str x u, .str "__getitem__" tk]) (by first | rfl | kernel_rfl) ?_)
  dsimp only
  refine wpAny_bind (wpAny_of_eq (a := ()) (by first | rfl | kernel_rfl) ?_)
  rw [if_neg (show ¬ ((Value.str x u == Value.builtin "__main__.__loader__#opaque") = true) from Bool.false_ne_true)]
  refine wpAny_bind (wpAny_typeOf hT ?_)
  dsimp only
  refine wpAny_bind (wpAny_of_eq (a := some (Str.ofString "__getitem__")) rfl ?_)
  dsimp only
  refine wpAny_bind (wpAny_of_eq f4 ?_)
  dsimp only
  refine wpAny_bind (wpAny_of_eq f2 ?_)
  rw [if_neg (by decide +kernel)]
  refine wpAny_bind (wpAny_of_eq (a := 0) rfl ?_)
  rw [if_neg (by decide)]
  refine wpAny_bind ?_
  unfold getAttrBy?
  refine wpAny_bind (wpAny_attempt (gi_by fun o => ?_))
  dsimp only
  refine wpAny_pure ?_
  rw [if_neg (show ¬ (((some (Value.ref h.objs.size)).isNone && (0 : Nat) == 2) = true) from Bool.false_ne_true)]
  exact wpAny_pure ⟨_, rfl, hq o⟩
end
end Mine

end
section -- W17
theorem Mine.off_W17 : True := by w_top off; trivial
open PySem PySem.W PyProof.Rows
set_option maxRecDepth 100000
namespace Mine
variable {w : World} {p : Program} {loose : List Str} {mean : ExcName → Option Value} {mg mb : Str → Option Value} {dp un : Nat} {gd : Option (List Code)} {cn : Str} {cs : Scope} {a : Addr} {ccd : Value} {cl : List (Str × Addr)} {outer : List Env} {A₀ : Around} {base h₀ : Heap} {L : Addr} {m : Str → Option Value} {news : List (Addr × Obj)} {s : Shared} {Q E : Value → Shared → Prop}
set_option maxHeartbeats 8000000 in
theorem imul_c (B : Below A₀ base outer h₀) (F : Fr h₀ L s.heap m) (X : (hd.heap_1 w.params).In h₀) (N : News h₀ L s.heap news) (T : Top p loose mean mg mb h₀) (hk : cs.kind = .function) (hd : dp + 5 < recursionLimit) (hu : un + 40 < cLine)
  {x y : Int} {tx ty : Tok} (hx : 0 ≤ x) (hx1 : x ≤ 100000) (hy : 0 ≤ y) (hy1 : y ≤ 100000)
  (ret : ∀ t h' tk', Fr h₀ L h' m → News h₀ L h' news → Q (.int (x * y) t) {s with heap := h', toks := tk'}) :
  wpAny (model PySem.Challenge.rw_wy0045_01.row.prog w) (ktrTop dp un gd cn cs L a ccd cl outer) (call (.ref 130) [.int x tx, .int y ty]) Q E s := by
  refine wpAny_call ?_
  k_dflt (refine' code_def ?k1 ?k2 ?k3 ?k4 ?k5 ?kA ?kF ?kK ?k6 ?k7 ?k8 ?k9 ?kB ?_ ?c2 ?c3 ?c4 ?c5; (case kA => exact rfl); (case kF => exact rfl); (case kK => first | assumption | exact rfl); (case k1 => k_asm); (case k2 => k_asm); (case k3 => k_asm); (case k4 => k_asm); (case k5 => k_asm); (case k6 => k_is); (case k7 => k_is); (case k8 => ktr_room); (case k9 => first | exact BindsTo.of_eq rfl | exact binds_K (by k_in) rfl (by k_is) rfl rfl rfl); (case c5 => decide); (case kB => exact locs rfl); (case c2 => exact rfl); (case c3 => exact rfl); (case c4 => exact rfl); k_whole; intro g' L' h1' FG' F' N' B' X' T'; (try dsimp only); (try k_fold))
  k_steps
  rename Fr _ _ _ _ => F4
  rename News _ _ _ _ => N4
  exact ret _ _ _ F4 N4
set_option maxHeartbeats 8000000 in
theorem concat_c (B : Below A₀ base outer h₀) (F : Fr h₀ L s.heap m) (X : (hd.heap_1 w.params).In h₀) (N : News h₀ L s.heap news) (T : Top p loose mean mg mb h₀) (hk : cs.kind = .function) (hd : dp + 5 < recursionLimit) (hu : un + 40 < cLine)
  {x y : Str} {tx ty : Tok} (hx : x.length < 1000) (hy : y.length < 1000)
  (ret : ∀ t h' tk', Fr h₀ L h' m → News h₀ L h' news → Q (.str (x ++ y) t) {s with heap := h', toks := tk'}) :
  wpAny (model PySem.Challenge.rw_wy0045_01.row.prog w) (ktrTop dp un gd cn cs L a ccd cl outer) (call (.ref 123) [.str x tx, .str y ty]) Q E s := by
  refine wpAny_call ?_
  k_dflt (refine' code_def ?k1 ?k2 ?k3 ?k4 ?k5 ?kA ?kF ?kK ?k6 ?k7 ?k8 ?k9 ?kB ?_ ?c2 ?c3 ?c4 ?c5; (case kA => exact rfl); (case kF => exact rfl); (case kK => first | assumption | exact rfl); (case k1 => k_asm); (case k2 => k_asm); (case k3 => k_asm); (case k4 => k_asm); (case k5 => k_asm); (case k6 => k_is); (case k7 => k_is); (case k8 => ktr_room); (case k9 => first | exact BindsTo.of_eq rfl | exact binds_K (by k_in) rfl (by k_is) rfl rfl rfl); (case c5 => decide); (case kB => exact locs rfl); (case c2 => exact rfl); (case c3 => exact rfl); (case c4 => exact rfl); k_whole; intro g' L' h1' FG' F' N' B' X' T'; (try dsimp only); (try k_fold))
  have e1 : (x ++ y).length ≤ sizeLine := by rw [sizeLine_eq, Str.length_append]; omega
  repeat' (first | ((with_reducible show wpAny _ _ (PySem.call (Value.builtin "hasattr") _ _) _ _ _); (k_here; (with_reducible rename Fr _ _ _ _ => kFq'); (with_reducible rename News _ _ _ _ => kNq'); k_dflt (refine call_hasattr (fun oAq' => ?_)); (have FAq' := Fr.push kFq' oAq'); (have NAq' := News.grown kNq' (fun _ _ e => Heap.get?_push_of_some oAq' e)); clear kFq' kNq')) | (k_unfold; (try dsimp only)) | (k_end; kc_close) | walk1 | (dsimp only; first | ((with_reducible show wpAny _ _ (PySem.call (Value.builtin "hasattr") _ _) _ _ _); (k_here; (with_reducible rename Fr _ _ _ _ => kFq'); (with_reducible rename News _ _ _ _ => kNq'); k_dflt (refine call_hasattr (fun oAq' => ?_)); (have FAq' := Fr.push kFq' oAq'); (have NAq' := News.grown kNq' (fun _ _ e => Heap.get?_push_of_some oAq' e)); clear kFq' kNq')) | walk1) | (leave1; (try dsimp only)))
  rename Fr _ _ _ _ => F4
  rename News _ _ _ _ => N4
  exact ret _ _ _ F4 N4
end Mine

end
section -- P11
open PySem PySem.W PyProof.Rows
set_option maxRecDepth 100000
namespace Mine
open PySem.F
theorem one_of (x : Int) : ∀ y, (false || decide (y = x)) = true → y = x := fun y h => by simpa using h
theorem noBool_set : typeLookup (.type "set") "__bool__" = pure none := by rw [typeLookup_type, builtinLookup_eq_fast]; kernel_rfl
section
variable {prog : Program} {w : World} {A : Around} {E : Value → Shared → Prop} {s : Shared} {h₀ : Heap} {L : Addr} {m : Str → Option Value} {a : Addr} {o : Obj}
theorem truthy_set {S : Int → Bool} {n : Nat} {Q : Bool → Shared → Prop} (ho : s.heap.get? a = some o) (hso : o.SetObjOf (PySem.intKind prog w) S n) (hfit : n < 1000)
    (h : Q (decide (n ≠ 0)) { s with toks := s.toks + 1 + 1 }) : wpAny (model prog w) A (truthy (.ref a)) Q E s := by
  obtain ⟨hex, es, ep, t, hd, _, _, hn, hf⟩ := hso
  subst hn
  have hT : s.TypeIs (.ref a) "set" := ⟨o, ho, hex.1⟩
  have hne : ((es.size : Int) != 0) = decide (es.size ≠ 0) := by
    by_cases e : es.size = 0
    · rw [e]; rfl
    · rw [decide_eq_true e]; exact bne_iff_ne.mpr (by lia  )
  have key : wpAny (model prog w) A (runValue (.builtin "len" ⟨[.ref a], []⟩)) (fun r s' => r = .int es.size (s.toks + 1) ∧ Q (decide (es.size ≠ 0)) s') E s := by
    refine wpAny_runValue (codeAny_builtin entry_len ?_)
    rw [Around.under_plainId plain_len _]
    exact wpAny_mono (wpAny_len_body_set (Q := fun r s' => r = .int es.size (s.toks + 1) ∧ Q (decide (es.size ≠ 0)) s') ho hex hd hf (by lia  ) ⟨rfl, h⟩)
      (fun fin s' h' => by obtain ⟨r, rfl, hq⟩ := h'; exact hq) fun _ _ e => e
  unfold truthy
  first
    | refine wpAny_bind (wpAny_callSpecial?_none (name := Str.ofString "__bool__") hT noBool_set ?_)
    | refine wpAny_bind (wpAny_pure (wpAny_bind (wpAny_callSpecial?_none (name := Str.ofString "__bool__") hT noBool_set ?_)))
  first
    | refine wpAny_bind (wpAny_specialOf (name := Str.ofString "__len__") hT F.slot_set_len.lookup ?_)
    | refine wpAny_bind (wpAny_pure (wpAny_bind (wpAny_specialOf (name := Str.ofString "__len__") hT F.slot_set_len.lookup ?_)))
  first
    | exact wpAny_bind (wpAny_mono key (fun r s' h' => by obtain ⟨rfl, hq⟩ := h'; exact wpAny_pure (hne ▸ hq)) fun _ _ e => e)
    | exact wpAny_bind (wpAny_pure (wpAny_bind (wpAny_mono key (fun r s' h' => by obtain ⟨rfl, hq⟩ := h'; exact wpAny_pure (hne ▸ hq)) fun _ _ e => e)))
theorem choose1 {src : Source} {Q : Nat → Shared → Prop} (h : ∀ dr, Q 0 { s with drawn := dr }) : wpAny (model prog w) A (choose src 1) Q E s := fun Γ p _ => by
  unfold choose
  rw [Sem.wp, Sem.wp]
  exact ⟨Nat.one_ne_zero, by rw [Nat.mod_one]; exact h _⟩
theorem pop_set {S : Int → Bool} {x : Int} {Q : Value → Shared → Prop} (ho : s.heap.get? a = some o) (hso : o.SetObjOf (PySem.intKind prog w) S 1) (hx : ∀ y, S y = true → y = x)
    (h : ∀ t h' o' dr, Heap.SameBut a s.heap h' → h'.get? a = some o' → o'.SetObjOf (PySem.intKind prog w) (fun _ => false) 0 → Q (.int x t) { s with heap := h', drawn := dr }) :
    wpAny (model prog w) A (call (.builtin "set.pop") [.ref a]) Q E s := by
  obtain ⟨hex, es, ep, t, hd, hel, hmem, hn, hf⟩ := hso
  have hT : s.TypeIs (.ref a) "set" := ⟨o, ho, hex.1⟩
  obtain ⟨e, he⟩ : ∃ e, es = #[e] := Array.size_eq_one_iff.mp hn
  subst he
  obtain ⟨⟨k, hk, hh⟩, hs⟩ := hel e (by simp)
  have hkx : k = x := hx k ((hmem k).mpr ⟨e, by simp, hk⟩)
  subst hkx
  obtain ⟨eh, ev⟩ := e
  obtain ⟨tv, rfl⟩ : ∃ tv, ev = .int k tv := Value.isInt_shape hk
  refine wpAny_call_entry F.slot_set_pop hT F.entry_set_pop ?_ (F.args_set_pop_1 _)
  unfold Builtin.«set.pop»
  refine wpAny_bind (wpAny_of_eq (a := a) (by first | rfl | kernel_rfl) ?_)
  have e0 : t.popPlace = some 0 := by
    have h1 : t.place.size = 1 := by
      have := hf; simp only [SetTable.fits, Bool.and_eq_true, beq_iff_eq, decide_eq_true_eq] at this; exact this.1
    unfold SetTable.popPlace
    have h2 : t.place.isEmpty = false := by rw [Array.isEmpty_eq_false_iff]; intro e; rw [e] at h1; cases h1
    rw [h2]
    simp only [Bool.false_eq_true, if_false, h1]
    by_cases q : SetTable.below t.place (t.finger % (t.mask + 1)) < 1
    · rw [if_pos q]; congr 1; lia  
    · rw [if_neg q]
  have fin : ∀ dr, wpAny (model prog w) A.in1 (do storeSet a (SetTable.eraseAt #[(eh, Value.int k tv)] 0) (t.popped 0); pure (some (Value.int k tv))) (fun r s' => ∃ dr' h' o', r = some (.int k tv) ∧ s' = { s with heap := h', drawn := dr' } ∧ Heap.SameBut a s.heap h' ∧ h'.get? a = some o' ∧ o'.SetObjOf (PySem.intKind prog w) (fun _ => false) 0) E { s with drawn := dr } := by
    intro dr
    refine wpAny_bind (wpAny_storeSet_of (s := { s with drawn := dr }) ho hd ?_ (by rw [sizeLine_eq]; exact Nat.le_of_ble_eq_true rfl))
    refine wpAny_pure ⟨dr, _, { o with data := .set (SetTable.eraseAt #[(eh, Value.int k tv)] 0) (ep + 1) (t.popped 0) }, rfl, rfl, Heap.SameBut.update .., ?_, ?_⟩
    · have e5 := putSet_of (SetTable.eraseAt #[(eh, Value.int k tv)] 0) (t.popped 0) hd
      rw [← e5]
      exact Heap.get?_update_self _ ho (by rw [e5]; rfl)
    · refine ⟨⟨hex.1, hex.2.1, hex.2.2⟩, _, _, _, rfl, fun e he => ?_, fun y => ?_, rfl, ?_⟩
      · exact absurd he (by intro q; cases q)
      · constructor
        · intro q; cases q
        · rintro ⟨e, he, _⟩; cases he
      · have h1 : t.place.size = 1 ∧ t.fill ≤ t.mask := by
          have := hf; simp only [SetTable.fits, Bool.and_eq_true, beq_iff_eq, decide_eq_true_eq] at this; exact this
        obtain ⟨mask, place, dummies, finger, led, moves, plain⟩ := t
        obtain ⟨j, rfl⟩ : ∃ j, place = #[j] := Array.size_eq_one_iff.mp h1.1
        have h2 := h1.2
        simp only [SetTable.fill] at h2
        simp only [SetTable.fits, SetTable.popped, SetTable.drop, SetTable.fill, SetTable.eraseAt, SetTable.insertAt]
        have e9 : (#[j] : Array Nat)[0]? = some j := rfl
        simp only [e9]
        generalize SetTable.below dummies j = b
        have e10 : ((#[j] : Array Nat).extract 0 0 ++ (#[j] : Array Nat).extract (0 + 1)).size = 0 := rfl
        have e11 : ((#[(eh, Value.int k tv)] : Array (Int × Value)).extract 0 0 ++ (#[(eh, Value.int k tv)] : Array (Int × Value)).extract (0 + 1)).size = 0 := rfl
        rw [e10, e11]
        have e12 : ((dummies.extract 0 b).push j ++ dummies.extract b).size = dummies.size + 1 := by
          simp only [Array.size_append, Array.size_push, Array.size_extract]; lia  
        rw [e12]
        simp only [beq_self_eq_true, Bool.true_and, decide_eq_true_eq]
        have e13 : (#[j] : Array Nat).size = 1 := rfl
        rw [e13] at h2
        lia  
  refine wpAny_bind ?_
  unfold setPop
  refine wpAny_bind (wpAny_setState_of ho hd hf ?_)
  dsimp only
  rw [e0]
  dsimp only
  refine wpAny_bind (wpAny_bind (wpAny_askSetting (wpAny_pure ?_)))
  have close : ∀ dr, wpAny (model prog w) A.in1 (do storeSet a (SetTable.eraseAt #[(eh, Value.int k tv)] 0) (t.popped 0); pure (some (Value.int k tv))) (fun a s' =>
      wpAny (model prog w) A.in1
        (match a with
        | some x => ret x
        | x => do
          rule "set.pop.empty"
          raiseErrorWords "KeyError" "pop from an empty set")
        (fun fin s' => ∃ v, fin = Fin.done (Flow.ret v) ∧ Q v s') E s') E { s with drawn := dr } := fun dr => by
    refine wpAny_mono (fin dr) (fun r s' hr => ?_) fun _ _ e => e
    obtain ⟨dr', h', o', rfl, rfl, x1, x2, x3⟩ := hr
    exact wpAny_pure ⟨_, rfl, h _ _ _ _ x1 x2 x3⟩
  refine wpAny_ite ?_
  split
  · refine wpAny_bind (choose1 (fun dr => ?_))
    exact close dr
  · refine wpAny_bind (wpAny_of_eq (a := ()) (by obtain ⟨mask, place, dummies, finger, led, moves, plain⟩ := t; cases led <;> rfl) ?_)
    refine wpAny_bind (wpAny_pure ?_)
    exact close s.drawn
theorem pop_setN {S : Int → Bool} {x : Int} {news : List (Addr × Obj)} {g : Obj → List (Addr × Obj)} {Q : Value → Shared → Prop} (F : Fr h₀ L s.heap m) (N : News h₀ L s.heap news) (U : UpdF a o news g) (hso : o.SetObjOf (PySem.intKind prog w) S 1) (hx : ∀ y, S y = true → y = x)
    (h : ∀ t h' o' dr, Fr h₀ L h' m → News h₀ L h' (g o') → o'.SetObjOf (PySem.intKind prog w) (fun _ => false) 0 → Q (.int x t) { s with heap := h', drawn := dr }) :
    wpAny (model prog w) A (call (.builtin "set.pop") [.ref a]) Q E s := by
  obtain ⟨pre, post, rfl, hg, q1, q2⟩ := U.split
  have hm := N (a, o) (List.mem_append_right _ (.head _))
  exact pop_set hm.1 hso hx fun t h' o' dr hs ho' hso' => h t h' o' dr (F.change hs hm.2.1 hm.2.2) (hg o' ▸ N.setIn q1 q2 hs ho') hso'
theorem pop_method {S : Int → Bool} {n : Nat} {pl : Sem Bool} {Q : Value × List Value → Shared → Prop} (ho : s.heap.get? a = some o) (hso : o.SetObjOf (PySem.intKind prog w) S n) (h : Q (.builtin "set.pop", [.ref a]) s) :
    wpAny (model prog w) A (getMethod (.ref a) "pop" pl) Q E s := by
  obtain ⟨hex, _⟩ := hso
  exact getMethod_builtin (T := "set") ⟨o, ho, hex.1⟩ F.plainAttrs_set F.slot_set_pop F.type_set_pop (fun b e => by cases e; exact ⟨o, ho, hex.2.1⟩) h
end
end Mine

end
section -- W18
theorem Mine.off_W18 : True := by w_top off; trivial
open PySem PySem.W PyProof.Rows
set_option maxRecDepth 100000
namespace Mine
variable {w : World} {p : Program} {loose : List Str} {mean : ExcName → Option Value} {mg mb : Str → Option Value} {dp un : Nat} {gd : Option (List Code)} {cn : Str} {cs : Scope} {a : Addr} {ccd : Value} {cl : List (Str × Addr)} {outer : List Env} {A₀ : Around} {base h₀ : Heap} {L : Addr} {m : Str → Option Value} {news : List (Addr × Obj)} {s : Shared} {Q E : Value → Shared → Prop}
set_option maxHeartbeats 8000000 in
theorem powers_c (B : Below A₀ base outer h₀) (F : Fr h₀ L s.heap m) (X : (hd.heap_1 w.params).In h₀) (N : News h₀ L s.heap news) (T : Top p loose mean mg mb h₀) (hk : cs.kind = .function) (hd : dp + 5 < recursionLimit) (hu : un + 40 < cLine)
  {x : Int} {tx t5 tl : Tok} (hx : 0 ≤ x) (hx1 : x ≤ 2048)
  (ret : ∀ r h' tk' dr, Fr h₀ L h' m → News h₀ L h' news → Q (.ref r) {s with heap := h', toks := tk', drawn := dr}) :
  wpAny (model PySem.Challenge.rw_wy0045_01.row.prog w) (ktrTop dp un gd cn cs L a ccd cl outer) (call (.ref 88) [.int x tx, .int 5 t5, .int 2048 tl]) Q E s := by
  refine wpAny_call ?_
  k_dflt (refine' code_def ?k1 ?k2 ?k3 ?k4 ?k5 ?kA ?kF ?kK ?k6 ?k7 ?k8 ?k9 ?kB ?_ ?c2 ?c3 ?c4 ?c5; (case kA => exact rfl); (case kF => exact rfl); (case kK => first | assumption | exact rfl); (case k1 => k_asm); (case k2 => k_asm); (case k3 => k_asm); (case k4 => k_asm); (case k5 => k_asm); (case k6 => k_is); (case k7 => k_is); (case k8 => ktr_room); (case k9 => first | exact BindsTo.of_eq rfl | exact binds_K (by k_in) rfl (by k_is) rfl rfl rfl); (case c5 => decide); (case kB => exact locs rfl); (case c2 => exact rfl); (case c3 => exact rfl); (case c4 => exact rfl); k_whole; intro g' L' h1' FG' F' N' B' X' T'; (try dsimp only); (try k_fold))
  repeat' (first | ((with_reducible show wpAny _ _ (PySem.call (Value.builtin "set.pop") _ _) _ _ _); (k_here; k_dflt (refine pop_setN (by k_asm) (by k_asm) (by k_updF) (by assumption) (one_of _) ?_); intro _ _ _ _ _ _ _)) | ((k_here; (with_reducible show wpAny _ _ (getMethod (Value.ref _) (PySem.Str.ofString "pop") _) _ _ _); k_dflt (refine pop_method (News.get (by k_asm) (by k_mem)) (by assumption) ?_))) | ((with_reducible show wpAny _ _ (truthy (Value.ref _)) _ _ _); (k_here; k_dflt (refine truthy_set (News.get (by k_asm) (by k_mem)) (by assumption) (by omega) ?_))) | (k_unfold; (try dsimp only)) | (k_end; kc_close) | walk1 | (dsimp only; first | ((with_reducible show wpAny _ _ (PySem.call (Value.builtin "set.pop") _ _) _ _ _); (k_here; k_dflt (refine pop_setN (by k_asm) (by k_asm) (by k_updF) (by assumption) (one_of _) ?_); intro _ _ _ _ _ _ _)) | ((k_here; (with_reducible show wpAny _ _ (getMethod (Value.ref _) (PySem.Str.ofString "pop") _) _ _ _); k_dflt (refine pop_method (News.get (by k_asm) (by k_mem)) (by assumption) ?_))) | ((with_reducible show wpAny _ _ (truthy (Value.ref _)) _ _ _); (k_here; k_dflt (refine truthy_set (News.get (by k_asm) (by k_mem)) (by assumption) (by omega) ?_))) | walk1) | (leave1; (try dsimp only)))
  rename Fr _ _ _ _ => F4
  rename News _ _ _ _ => N4
  exact ret _ _ _ _ F4 (fun p hp => N4 p (by repeat (first | exact hp | refine List.Mem.tail _ ?_)))
end Mine

end
section -- P12
open PySem PySem.W PyProof.Rows PySem.NumText PySem.Calls
set_option maxRecDepth 100000
namespace Mine
theorem wp_max {M : Model} {A : Around} {E : Value → Shared → Prop} {s : Shared} {Q : Nat → Shared → Prop} (hd : s.heap.NoDigits) (h : Q 4300 s) : wpAny M A Builtin.intMaxStrDigits Q E s := by
  obtain ⟨mc, hns, hnone⟩ := hd
  unfold Builtin.intMaxStrDigits
  refine wpAny_bind (wpAny_nsGet hns ?_)
  rw [hnone]
  exact wpAny_pure h
theorem wp_textL {M : Model} {A : Around} {E : Value → Shared → Prop} {s : Shared} {Q : Value → Shared → Prop} {v : Value} {text : List Nat} {n : Int} (hd : s.heap.NoDigits)
    (hs : ¬ (text.takeWhile (· != 0)).length ≤ 640) (hr : (int_private% "readNumeral") 4300 10 (text.takeWhile (· != 0)) = (int_private% "Numeral.value") n)
    (ha : ((text.takeWhile (· != 0)).length == text.length) = true) (h : Q (.int n s.toks) { s with toks := s.toks + 1 }) :
    wpAny M A ((int_private% "intFromText") v text 10) Q E s := by
  obtain ⟨hp, g, d, tk, os⟩ := s
  repeat (any_goals (first
    | assumption
    | (with_reducible refine wpAny_ite_false (decide_eq_false hs) ?_)
    | (with_reducible refine wpAny_ite_true (decide_eq_true ha) ?_)
    | (with_reducible refine wp_max hd ?_)
    | wp_step))
  all_goals (try rw [hr])
  all_goals (try dsimp only)
  repeat (any_goals (first
    | assumption
    | (with_reducible refine wpAny_ite_true (decide_eq_true ha) ?_)
    | wp_step))
structure Hid3 (p : Prop) : Prop where
  out : p
set_option maxHeartbeats 4000000 in
theorem meets_textL {x : Str} {u : Tok} {n : Int} (hl : ¬ (numSeenOf x).length ≤ 640) (hx : x.length ≤ sizeLine) (hn : PySem.intText? x = some n) :
    Meets (Builtin.«int.__new__» ⟨[.type "int", .str x u], []⟩) (fun _ R s => s.heap.NoDigits ∧ R (.ok (.ret (.int n s.toks))) { s with toks := s.toks + 1 }) := by
  intro prog w A R s hS
  obtain ⟨hd, h⟩ := hS
  obtain ⟨hp, g, d, tk, os⟩ := s
  have f1 := F.conv_sub_int
  have f2 := F.madeHere_int
  have f3 := KIN.str_int
  have f4 := KIN.str_idx
  have f5 := KIN.str_trunc
  have f6 : typeOf (.str x u) = pure (.type "str") := rfl
  have hr : (int_private% "readNumeral") 4300 10 (numSeenOf x) = (int_private% "Numeral.value") n ∧ ((numSeenOf x).length == (numTextOf x).length) = true := by
    rcases read4300 x hx with ⟨m, h1, h2, h3⟩ | ⟨h1, _⟩
    · rw [hn] at h1
      injection h1 with h1
      subst h1
      exact ⟨h3, h2⟩
    · rw [hn] at h1
      cases h1
  have hk := Hid3.mk (And.intro hl hr)
  clear hl hr hn hx
  repeat (any_goals (first
    | assumption
    | ((with_reducible show wpAny _ _ ((int_private% "intFromText") _ _ _) _ _ _); refine wp_textL hd hk.out.1 hk.out.2.1 hk.out.2.2 ?_)
    | wp_step))
theorem call_int_digits {prog : Program} {w : World} {A : Around} {E : Value → Shared → Prop} {s : Shared} {Q : Value → Shared → Prop} {x : Str} {t : Tok} (hd : s.heap.NoDigits) (ha : AllDigits x.cps.toList) (hne : x.cps.toList ≠ []) (hl : x.length ≤ 4300)
    (h : Q (.int ((digitsVal x.cps.toList : Nat) : Int) s.toks) { s with toks := s.toks + 1 }) : wpAny (model prog w) A (call (.type "int") [.str x t]) Q E s := by
  have hn := intText_digits ha hne hl
  by_cases h6 : x.length ≤ 640
  · exact KIN.call_text hn h6 h
  · have e := (numText_signs (x := x) fun c hc => Or.inr (ha c hc)).2
    have hl' : ¬ (numSeenOf x).length ≤ 640 := by rw [e]; intro q; exact h6 (by rw [Array.length_toList] at q; exact q)
    exact call_int_1 (meets_textL hl' (by rw [sizeLine_eq]; lia  ) hn) ⟨hd, rfl, h⟩
theorem slice_full (x : Str) : Txt.slice x (some 0) (some (x.length : Int)) = x := by
  unfold Txt.slice
  have e := StrLaws.strSliceIndices_plain (a := 0) (b := x.length) (len := x.length) (Nat.zero_le _) (Nat.le_refl _)
  have e' : (Builtin.Str.strSliceIndices (some 0) (some (x.length : Int)) 1 x.length).length = x.length := by
    have e2 : Builtin.Str.strSliceIndices (some 0) (some (x.length : Int)) 1 x.length = _ := e
    rw [e2]; simp
  rw [e']
  simp
theorem call_int_whole {prog : Program} {w : World} {A : Around} {E : Value → Shared → Prop} {s : Shared} {Q : Value → Shared → Prop} {x : Str} {t : Tok} (hd : s.heap.NoDigits) (ha : AllDigits x.cps.toList) (hne : x.cps.toList ≠ []) (hl : x.length ≤ 4300)
    (h : Q (.int ((digitsVal x.cps.toList : Nat) : Int) s.toks) { s with toks := s.toks + 1 }) : wpAny (model prog w) A (call (.type "int") [.str (Txt.slice x (some 0) (some (x.length : Int))) t]) Q E s := by
  rw [slice_full]; exact call_int_digits hd ha hne hl h
theorem News.pick7 {h₀ h : Heap} {L : Addr} {f c x1 x2 x3 x4 t : Addr × Obj} {n : List (Addr × Obj)} (N : News h₀ L h (f :: c :: x1 :: x2 :: x3 :: x4 :: t :: n)) : News h₀ L h (t :: c :: n) := fun p hp => N p (by
  rcases List.mem_cons.mp hp with rfl | hp
  · exact .tail _ (.tail _ (.tail _ (.tail _ (.tail _ (.tail _ (.head _))))))
  rcases List.mem_cons.mp hp with rfl | hp
  · exact .tail _ (.head _)
  · exact .tail _ (.tail _ (.tail _ (.tail _ (.tail _ (.tail _ (.tail _ hp)))))))
theorem News.pick6 {h₀ h : Heap} {L : Addr} {f x1 x2 x3 x4 t : Addr × Obj} {n : List (Addr × Obj)} (N : News h₀ L h (f :: x1 :: x2 :: x3 :: x4 :: t :: n)) : News h₀ L h (t :: n) := fun p hp => N p (by
  rcases List.mem_cons.mp hp with rfl | hp
  · exact .tail _ (.tail _ (.tail _ (.tail _ (.tail _ (.head _)))))
  · exact .tail _ (.tail _ (.tail _ (.tail _ (.tail _ (.tail _ hp))))))
/-- the table of the codes that the inner def's code has made: none yet, or the one -/
noncomputable def TB (ps : Array Value) (n : List (Addr × Obj)) : Prop :=
  ps = #[] ∨ ∃ c' oc vs t, ps = #[rawInt 82, rawInt 4, .ref c'] ∧ (c', oc) ∈ n ∧ oc.data = .fields vs ∧ vs[1]? = some (.str (Str.ofString "_str_to_int_inner.<locals>.inner") t)
theorem genTn {M : Model} {A : Around} {l : List Stmt} {env : Env} {Q : Flow → Shared → Prop} {E : Value → Shared → Prop} {h : Heap} {g : _} {d : _} {x : Nat} {o : _} (hx : 0 < x)
    (k : ∀ tk, 0 < tk → wpAny M A (execs l env) Q E ⟨h, g, d, tk, o⟩) : wpAny M A (execs l env) Q E ⟨h, g, d, x, o⟩ := k x hx
end Mine

end
section -- W19
theorem Mine.off_W19 : True := by w_top off; trivial
open PySem PySem.W PyProof.Rows
set_option maxRecDepth 100000
namespace Mine
variable {w : World} {p : Program} {loose : List Str} {mean : ExcName → Option Value} {mg mb : Str → Option Value} {dp un : Nat} {gd : Option (List Code)} {cn : Str} {cs : Scope} {a : Addr} {ccd : Value} {cl : List (Str × Addr)} {outer : List Env} {A₀ : Around} {base h₀ : Heap} {L : Addr} {m : Str → Option Value} {news : List (Addr × Obj)} {s : Shared} {Q E : Value → Shared → Prop}
/-- what a call leaves of the inner def's table: its code stands where it stood, or is new -/
noncomputable def Keep (ps : Array Value) (news : List (Addr × Obj)) (ps' : Array Value) (n' : List (Addr × Obj)) : Prop :=
  ∀ n0, (∀ p ∈ n0, p ∈ news) → TB ps n0 → ∃ X, (∀ p ∈ X, p ∈ n' ∧ ∀ q ∈ news, q.1 < p.1) ∧ TB ps' (X ++ n0)
set_option maxHeartbeats 8000000 in
theorem inner1_c (B : Below A₀ base outer h₀) (F : Fr h₀ L s.heap m) (X : (hd.heap_1 w.params).In h₀) (N : News h₀ L s.heap ((90, tabObj #[]) :: news)) (T : Top p loose mean mg mb h₀) (hk : cs.kind = .function) (hd : dp + 10 < recursionLimit) (hu : un + 80 < cLine)
  (C : CodeHd base 94 90) (h90 : ∀ p ∈ news, p.1 ≠ 90) {x : Str} {tx : Tok} (hx : x.length ≤ 2000) (ha : NumText.AllDigits x.cps.toList) (hne : x.cps.toList ≠ [])
  (ret : ∀ t h' tk' dr ps' n', (∀ p ∈ news, p ∈ n') → (∀ p ∈ n', p.1 ≠ 90) → Fr h₀ L h' m → News h₀ L h' ((90, tabObj ps') :: n') → TB ps' n' → Keep (#[]) news ps' n' → Q (.int ((NumText.digitsVal x.cps.toList : Nat) : Int) t) {s with heap := h', toks := tk', drawn := dr}) :
  wpAny (model PySem.Challenge.rw_wy0045_01.row.prog w) (ktrTop dp un gd cn cs L a ccd cl outer) (call (.ref 95) [.str x tx]) Q E s := by
  refine wpAny_call ?_
  k_dflt (refine' code_defC ?k1 ?k2 ?k3 ?k4 ?k5 ?kA ?kF ?kK ?k6 ?k7 ?k8 ?k9 ?kB ?kD ?_ ?c2 ?c3 ?c4; (case kA => exact rfl); (case kF => exact rfl); (case kK => first | assumption | exact rfl); (case k1 => k_asm); (case k2 => k_asm); (case k3 => k_asm); (case k4 => k_asm); (case k5 => k_asm); (case k6 => k_is); (case k7 => k_is); (case k8 => ktr_room); (case k9 => first | exact BindsTo.of_eq rfl | exact binds_K (by k_in) rfl (by k_is) rfl rfl rfl); (case kB => exact rfl); (case kD => decide +kernel); (case c2 => exact rfl); (case c3 => exact rfl); (case c4 => exact rfl); k_whole; intro g' L' h1' tk1 cells' FG' F' N' Y' B' X' T' l1; k_cells Y'; (try simp only [List.cons_append, List.nil_append] at N'); (try dsimp only); (try k_fold))
  rename_i o1 o2 o3 o4 d1 d2 d3 d4
  have l90 : (90 : Addr) < L' := l1 (90, _) (.head _)
  k_lt2 l90
  have al1 : ∀ p ∈ news, p.1 ≠ L' + 1 := fun p hp => Nat.ne_of_lt (Nat.lt_add_right 1 (l1 p (.tail _ hp)))
  have al2 : ∀ p ∈ news, p.1 ≠ L' + 1 + 1 := fun p hp => Nat.ne_of_lt (Nat.lt_add_right 1 (Nat.lt_add_right 1 (l1 p (.tail _ hp))))
  have al3 : ∀ p ∈ news, p.1 ≠ L' + 1 + 1 + 1 := fun p hp => Nat.ne_of_lt (Nat.lt_add_right 1 (Nat.lt_add_right 1 (Nat.lt_add_right 1 (l1 p (.tail _ hp)))))
  have al4 : ∀ p ∈ news, p.1 ≠ L' + 1 + 1 + 1 + 1 := fun p hp => Nat.ne_of_lt (Nat.lt_add_right 1 (Nat.lt_add_right 1 (Nat.lt_add_right 1 (Nat.lt_add_right 1 (l1 p (.tail _ hp))))))
  repeat' (first | ((with_reducible show wpAny _ _ (PySem.call (Value.ref _) _ _) _ _ _); (k_here; (with_reducible show wpAny _ _ (call (Value.ref 88) _ _) _ _ _); k_dflt (refine powers_c (by k_asm) (by with_reducible assumption) (by k_asm) (by with_reducible assumption) (by k_asm) rfl (by first | exact rmN (k := 6) hd rfl | exact rmN (k := 11) hd rfl | exact rmN (k := 16) hd rfl | exact rmN (k := 21) hd rfl | exact rmN (k := 26) hd rfl | ((try dsimp only [ktrTop]); omega)) (by first | exact rmN (k := 43) hu rfl | exact rmN (k := 83) hu rfl | exact rmN (k := 123) hu rfl | exact rmN (k := 163) hu rfl | ((try dsimp only [ktrTop]); omega)) (by omega) (by omega) ?_); intro _ _ _ _ _ _)) | ((with_reducible show wpAny _ _ (PySem.call (Value.ref _) _ _) _ _ _); (k_here; kn_here; k_dflt (refine wpAny_call ?_; (refine' code_nest ?k1 ?k2 ?k3 ?k4 ?k5 ?kA ?kF ?kK ?k6 ?k7 ?k8 ?k9 ?kB ?_ ?c2 ?c3 ?c4 ?c5; (case kA => exact rfl); (case kF => exact rfl); (case kK => first | assumption | exact rfl); (case k1 => k_asm); (case k2 => k_asm); (case k3 => k_asm); (case k4 => k_asm); (case k5 => k_asm); (case k6 => k_mem); (case k7 => exact codeRec_news (by k_asm) (by k_mem) (by assumption) (by assumption)); (case k8 => ktr_room); (case k9 => exact BindsTo.of_eq rfl); (case c5 => decide); (case kB => exact locs rfl); (case c2 => exact rfl); (case c3 => exact rfl); (case c4 => exact rfl); k_whole; intro _ _ _ _ _ _ _ _ _; (try dsimp only); (try k_fold))))) | ((with_reducible show wpAny _ _ (PySem.call (Value.type "int") _ _) _ _ _); (k_here; k_dflt (refine call_int_whole (Heap.NoDigits.keeps (Top.nodigits (by assumption)) (Fr.keep (by with_reducible assumption))) (by assumption) (by assumption) (by omega) ?_))) | (k_unfold; (try dsimp only)) | (k_end; kc_close) | walk1 | (dsimp only; first | ((with_reducible show wpAny _ _ (PySem.call (Value.ref _) _ _) _ _ _); (k_here; (with_reducible show wpAny _ _ (call (Value.ref 88) _ _) _ _ _); k_dflt (refine powers_c (by k_asm) (by with_reducible assumption) (by k_asm) (by with_reducible assumption) (by k_asm) rfl (by first | exact rmN (k := 6) hd rfl | exact rmN (k := 11) hd rfl | exact rmN (k := 16) hd rfl | exact rmN (k := 21) hd rfl | exact rmN (k := 26) hd rfl | ((try dsimp only [ktrTop]); omega)) (by first | exact rmN (k := 43) hu rfl | exact rmN (k := 83) hu rfl | exact rmN (k := 123) hu rfl | exact rmN (k := 163) hu rfl | ((try dsimp only [ktrTop]); omega)) (by omega) (by omega) ?_); intro _ _ _ _ _ _)) | ((with_reducible show wpAny _ _ (PySem.call (Value.ref _) _ _) _ _ _); (k_here; kn_here; k_dflt (refine wpAny_call ?_; (refine' code_nest ?k1 ?k2 ?k3 ?k4 ?k5 ?kA ?kF ?kK ?k6 ?k7 ?k8 ?k9 ?kB ?_ ?c2 ?c3 ?c4 ?c5; (case kA => exact rfl); (case kF => exact rfl); (case kK => first | assumption | exact rfl); (case k1 => k_asm); (case k2 => k_asm); (case k3 => k_asm); (case k4 => k_asm); (case k5 => k_asm); (case k6 => k_mem); (case k7 => exact codeRec_news (by k_asm) (by k_mem) (by assumption) (by assumption)); (case k8 => ktr_room); (case k9 => exact BindsTo.of_eq rfl); (case c5 => decide); (case kB => exact locs rfl); (case c2 => exact rfl); (case c3 => exact rfl); (case c4 => exact rfl); k_whole; intro _ _ _ _ _ _ _ _ _; (try dsimp only); (try k_fold))))) | ((with_reducible show wpAny _ _ (PySem.call (Value.type "int") _ _) _ _ _); (k_here; k_dflt (refine call_int_whole (Heap.NoDigits.keeps (Top.nodigits (by assumption)) (Fr.keep (by with_reducible assumption))) (by assumption) (by assumption) (by omega) ?_))) | walk1) | (leave1; (try dsimp only)))
  rename Fr _ _ _ _ => F4
  rename News _ _ _ _ => N4
  rename _ ∧ _ => l2
  refine ret _ _ _ _ _ _ (fun p hp => .tail _ hp) ?_ F4 (News.pick7 N4) (.inr ⟨_, _, _, _, rfl, .head _, by assumption, by assumption⟩) ?_
  rotate_left
  · intro n0 hs _
    refine ⟨[_], fun p hp => ?_, .inr ⟨_, _, _, _, rfl, .head _, by assumption, by assumption⟩⟩
    rw [List.mem_singleton.mp hp]
    exact ⟨.head _, of_allLt l2.2.2.2.2.2⟩
  intro p hp
  rcases List.mem_cons.mp hp with rfl | hp
  · exact Ne.symm (Nat.ne_of_lt l2.2.2.2.2.1)
  · exact h90 p hp
set_option maxHeartbeats 8000000 in
theorem inner2_c (B : Below A₀ base outer h₀) (F : Fr h₀ L s.heap m) (X : (hd.heap_1 w.params).In h₀) {c9 : Addr} {oc9 : Obj} {vs9 : Array Value} {t9 : Tok} (N : News h₀ L s.heap ((90, tabObj #[rawInt 82, rawInt 4, .ref c9]) :: news)) (mc : (c9, oc9) ∈ news) (d9 : oc9.data = .fields vs9) (v9 : vs9[1]? = some (.str (Str.ofString "_str_to_int_inner.<locals>.inner") t9)) (T : Top p loose mean mg mb h₀) (hk : cs.kind = .function) (hd : dp + 10 < recursionLimit) (hu : un + 80 < cLine)
  (C : CodeHd base 94 90) (h90 : ∀ p ∈ news, p.1 ≠ 90) {x : Str} {tx : Tok} (hx : x.length ≤ 2000) (ha : NumText.AllDigits x.cps.toList) (hne : x.cps.toList ≠ [])
  (ret : ∀ t h' tk' dr ps' n', (∀ p ∈ news, p ∈ n') → (∀ p ∈ n', p.1 ≠ 90) → Fr h₀ L h' m → News h₀ L h' ((90, tabObj ps') :: n') → TB ps' n' → Keep (#[rawInt 82, rawInt 4, .ref c9]) news ps' n' → Q (.int ((NumText.digitsVal x.cps.toList : Nat) : Int) t) {s with heap := h', toks := tk', drawn := dr}) :
  wpAny (model PySem.Challenge.rw_wy0045_01.row.prog w) (ktrTop dp un gd cn cs L a ccd cl outer) (call (.ref 95) [.str x tx]) Q E s := by
  refine wpAny_call ?_
  k_dflt (refine' code_defC ?k1 ?k2 ?k3 ?k4 ?k5 ?kA ?kF ?kK ?k6 ?k7 ?k8 ?k9 ?kB ?kD ?_ ?c2 ?c3 ?c4; (case kA => exact rfl); (case kF => exact rfl); (case kK => first | assumption | exact rfl); (case k1 => k_asm); (case k2 => k_asm); (case k3 => k_asm); (case k4 => k_asm); (case k5 => k_asm); (case k6 => k_is); (case k7 => k_is); (case k8 => ktr_room); (case k9 => first | exact BindsTo.of_eq rfl | exact binds_K (by k_in) rfl (by k_is) rfl rfl rfl); (case kB => exact rfl); (case kD => decide +kernel); (case c2 => exact rfl); (case c3 => exact rfl); (case c4 => exact rfl); k_whole; intro g' L' h1' tk1 cells' FG' F' N' Y' B' X' T' l1; k_cells Y'; (try simp only [List.cons_append, List.nil_append] at N'); (try dsimp only); (try k_fold))
  rename_i o1 o2 o3 o4 d1 d2 d3 d4
  have l90 : (90 : Addr) < L' := l1 (90, _) (.head _)
  k_lt2 l90
  have al1 : ∀ p ∈ news, p.1 ≠ L' + 1 := fun p hp => Nat.ne_of_lt (Nat.lt_add_right 1 (l1 p (.tail _ hp)))
  have al2 : ∀ p ∈ news, p.1 ≠ L' + 1 + 1 := fun p hp => Nat.ne_of_lt (Nat.lt_add_right 1 (Nat.lt_add_right 1 (l1 p (.tail _ hp))))
  have al3 : ∀ p ∈ news, p.1 ≠ L' + 1 + 1 + 1 := fun p hp => Nat.ne_of_lt (Nat.lt_add_right 1 (Nat.lt_add_right 1 (Nat.lt_add_right 1 (l1 p (.tail _ hp)))))
  have al4 : ∀ p ∈ news, p.1 ≠ L' + 1 + 1 + 1 + 1 := fun p hp => Nat.ne_of_lt (Nat.lt_add_right 1 (Nat.lt_add_right 1 (Nat.lt_add_right 1 (Nat.lt_add_right 1 (l1 p (.tail _ hp))))))
  repeat' (first | ((with_reducible show wpAny _ _ (PySem.call (Value.ref _) _ _) _ _ _); (k_here; (with_reducible show wpAny _ _ (call (Value.ref 88) _ _) _ _ _); k_dflt (refine powers_c (by k_asm) (by with_reducible assumption) (by k_asm) (by with_reducible assumption) (by k_asm) rfl (by first | exact rmN (k := 6) hd rfl | exact rmN (k := 11) hd rfl | exact rmN (k := 16) hd rfl | exact rmN (k := 21) hd rfl | exact rmN (k := 26) hd rfl | ((try dsimp only [ktrTop]); omega)) (by first | exact rmN (k := 43) hu rfl | exact rmN (k := 83) hu rfl | exact rmN (k := 123) hu rfl | exact rmN (k := 163) hu rfl | ((try dsimp only [ktrTop]); omega)) (by omega) (by omega) ?_); intro _ _ _ _ _ _)) | ((with_reducible show wpAny _ _ (PySem.call (Value.ref _) _ _) _ _ _); (k_here; kn_here; k_dflt (refine wpAny_call ?_; (refine' code_nest ?k1 ?k2 ?k3 ?k4 ?k5 ?kA ?kF ?kK ?k6 ?k7 ?k8 ?k9 ?kB ?_ ?c2 ?c3 ?c4 ?c5; (case kA => exact rfl); (case kF => exact rfl); (case kK => first | assumption | exact rfl); (case k1 => k_asm); (case k2 => k_asm); (case k3 => k_asm); (case k4 => k_asm); (case k5 => k_asm); (case k6 => k_mem); (case k7 => exact codeRec_news (by k_asm) (by k_mem) (by assumption) (by assumption)); (case k8 => ktr_room); (case k9 => exact BindsTo.of_eq rfl); (case c5 => decide); (case kB => exact locs rfl); (case c2 => exact rfl); (case c3 => exact rfl); (case c4 => exact rfl); k_whole; intro _ _ _ _ _ _ _ _ _; (try dsimp only); (try k_fold))))) | ((with_reducible show wpAny _ _ (PySem.call (Value.type "int") _ _) _ _ _); (k_here; k_dflt (refine call_int_whole (Heap.NoDigits.keeps (Top.nodigits (by assumption)) (Fr.keep (by with_reducible assumption))) (by assumption) (by assumption) (by omega) ?_))) | (k_unfold; (try dsimp only)) | (k_end; kc_close) | walk1 | (dsimp only; first | ((with_reducible show wpAny _ _ (PySem.call (Value.ref _) _ _) _ _ _); (k_here; (with_reducible show wpAny _ _ (call (Value.ref 88) _ _) _ _ _); k_dflt (refine powers_c (by k_asm) (by with_reducible assumption) (by k_asm) (by with_reducible assumption) (by k_asm) rfl (by first | exact rmN (k := 6) hd rfl | exact rmN (k := 11) hd rfl | exact rmN (k := 16) hd rfl | exact rmN (k := 21) hd rfl | exact rmN (k := 26) hd rfl | ((try dsimp only [ktrTop]); omega)) (by first | exact rmN (k := 43) hu rfl | exact rmN (k := 83) hu rfl | exact rmN (k := 123) hu rfl | exact rmN (k := 163) hu rfl | ((try dsimp only [ktrTop]); omega)) (by omega) (by omega) ?_); intro _ _ _ _ _ _)) | ((with_reducible show wpAny _ _ (PySem.call (Value.ref _) _ _) _ _ _); (k_here; kn_here; k_dflt (refine wpAny_call ?_; (refine' code_nest ?k1 ?k2 ?k3 ?k4 ?k5 ?kA ?kF ?kK ?k6 ?k7 ?k8 ?k9 ?kB ?_ ?c2 ?c3 ?c4 ?c5; (case kA => exact rfl); (case kF => exact rfl); (case kK => first | assumption | exact rfl); (case k1 => k_asm); (case k2 => k_asm); (case k3 => k_asm); (case k4 => k_asm); (case k5 => k_asm); (case k6 => k_mem); (case k7 => exact codeRec_news (by k_asm) (by k_mem) (by assumption) (by assumption)); (case k8 => ktr_room); (case k9 => exact BindsTo.of_eq rfl); (case c5 => decide); (case kB => exact locs rfl); (case c2 => exact rfl); (case c3 => exact rfl); (case c4 => exact rfl); k_whole; intro _ _ _ _ _ _ _ _ _; (try dsimp only); (try k_fold))))) | ((with_reducible show wpAny _ _ (PySem.call (Value.type "int") _ _) _ _ _); (k_here; k_dflt (refine call_int_whole (Heap.NoDigits.keeps (Top.nodigits (by assumption)) (Fr.keep (by with_reducible assumption))) (by assumption) (by assumption) (by omega) ?_))) | walk1) | (leave1; (try dsimp only)))
  rename Fr _ _ _ _ => F4
  rename News _ _ _ _ => N4
  exact ret _ _ _ _ _ _ (fun p hp => hp) h90 F4 (News.pick6 N4) (.inr ⟨_, _, _, _, rfl, mc, d9, v9⟩) (fun n0 _ h => ⟨[], fun _ hp => (nomatch hp), h⟩)
set_option maxHeartbeats 8000000 in
theorem inner_c {ps : Array Value} (B : Below A₀ base outer h₀) (F : Fr h₀ L s.heap m) (X : (hd.heap_1 w.params).In h₀) (N : News h₀ L s.heap ((90, tabObj ps) :: news)) (tb : TB ps news) (T : Top p loose mean mg mb h₀) (hk : cs.kind = .function) (hd : dp + 10 < recursionLimit) (hu : un + 80 < cLine)
  (C : CodeHd base 94 90) (h90 : ∀ p ∈ news, p.1 ≠ 90) {x : Str} {tx : Tok} (hx : x.length ≤ 2000) (ha : NumText.AllDigits x.cps.toList) (hne : x.cps.toList ≠ [])
  (ret : ∀ t h' tk' dr ps' n', (∀ p ∈ news, p ∈ n') → (∀ p ∈ n', p.1 ≠ 90) → Fr h₀ L h' m → News h₀ L h' ((90, tabObj ps') :: n') → TB ps' n' → Keep (ps) news ps' n' → Q (.int ((NumText.digitsVal x.cps.toList : Nat) : Int) t) {s with heap := h', toks := tk', drawn := dr}) :
  wpAny (model PySem.Challenge.rw_wy0045_01.row.prog w) (ktrTop dp un gd cn cs L a ccd cl outer) (call (.ref 95) [.str x tx]) Q E s := by
  rcases tb with rfl | ⟨c9, oc9, vs9, t9, rfl, mc, d9, v9⟩
  · exact inner1_c B F X N T hk hd hu C h90 hx ha hne ret
  · exact inner2_c B F X N mc d9 v9 T hk hd hu C h90 hx ha hne ret
end Mine

end
section -- W20
theorem Mine.off_W20 : True := by w_top off; trivial
open PySem PySem.W PyProof.Rows
set_option maxRecDepth 100000
namespace Mine
variable {w : World} {p : Program} {loose : List Str} {mean : ExcName → Option Value} {mg mb : Str → Option Value} {dp un : Nat} {gd : Option (List Code)} {cn : Str} {cs : Scope} {a : Addr} {ccd : Value} {cl : List (Str × Addr)} {outer : List Env} {A₀ : Around} {base h₀ : Heap} {L : Addr} {m : Str → Option Value} {news : List (Addr × Obj)} {s : Shared} {Q E : Value → Shared → Prop}
set_option maxHeartbeats 8000000 in
theorem from_string_c {ps : Array Value} (B : Below A₀ base outer h₀) (F : Fr h₀ L s.heap m) (X : (hd.heap_1 w.params).In h₀) (N : News h₀ L s.heap ((90, tabObj ps) :: news)) (tb : TB ps news) (T : Top p loose mean mg mb h₀) (hk : cs.kind = .function) (hd : dp + 15 < recursionLimit) (hu : un + 120 < cLine)
  (C : CodeHd base 94 90) (h90 : ∀ p ∈ news, p.1 ≠ 90) {x y z : Str} {tx : Tok} (e1 : Txt.rstrip x = y) (s1 : x.length ≤ sizeLine) (e2 : Txt.replace y (Str.ofString "_") (Str.ofString "") = z) (s2 : y.length ≤ 5000) (hx : z.length ≤ 2000) (ha : NumText.AllDigits z.cps.toList) (hne : z.cps.toList ≠ [])
  (ret : ∀ t h' tk' dr ps' n', (∀ p ∈ news, p ∈ n') → (∀ p ∈ n', p.1 ≠ 90) → Fr h₀ L h' m → News h₀ L h' ((90, tabObj ps') :: n') → TB ps' n' → Keep ps news ps' n' → Q (.int ((NumText.digitsVal z.cps.toList : Nat) : Int) t) {s with heap := h', toks := tk', drawn := dr}) :
  wpAny (model PySem.Challenge.rw_wy0045_01.row.prog w) (ktrTop dp un gd cn cs L a ccd cl outer) (call (.ref 102) [.str x tx]) Q E s := by
  refine wpAny_call ?_
  k_dflt (refine' code_def ?k1 ?k2 ?k3 ?k4 ?k5 ?kA ?kF ?kK ?k6 ?k7 ?k8 ?k9 ?kB ?_ ?c2 ?c3 ?c4 ?c5; (case kA => exact rfl); (case kF => exact rfl); (case kK => first | assumption | exact rfl); (case k1 => k_asm); (case k2 => k_asm); (case k3 => k_asm); (case k4 => k_asm); (case k5 => k_asm); (case k6 => k_is); (case k7 => k_is); (case k8 => ktr_room); (case k9 => first | exact BindsTo.of_eq rfl | exact binds_K (by k_in) rfl (by k_is) rfl rfl rfl); (case c5 => decide); (case kB => exact locs rfl); (case c2 => exact rfl); (case c3 => exact rfl); (case c4 => exact rfl); k_whole; intro g' L' h1' FG' F' N' B' X' T'; (try dsimp only); (try k_fold))
  refine genTn (show 0 < s.toks + 1 from Nat.succ_pos _) ?_
  intro tkg ptk
  repeat' (first | ((with_reducible show wpAny _ _ (PySem.call (Value.builtin "str.replace") _ _) _ _ _); (k_here; k_dflt (refine call_replace1 (by assumption) (by decide +kernel) (by omega) (by decide +kernel) (by assumption) ?_); intro _ _)) | ((with_reducible show wpAny _ _ (PySem.call (Value.builtin "str.rstrip") _ _) _ _ _); (k_here; k_dflt (refine call_rstrip (by assumption) (by assumption) (by assumption) ?_); intro _ _ _)) | ((with_reducible show wpAny _ _ (PySem.call (Value.ref _) _ _) _ _ _); (k_here; (with_reducible show wpAny _ _ (call (Value.ref 95) _ _) _ _ _); k_dflt (refine inner_c (by k_asm) (by with_reducible assumption) (by k_asm) (by with_reducible assumption) (by assumption) (by k_asm) rfl (by first | exact rmN (k := 6) hd rfl | exact rmN (k := 11) hd rfl | exact rmN (k := 16) hd rfl | exact rmN (k := 21) hd rfl | exact rmN (k := 26) hd rfl | ((try dsimp only [ktrTop]); omega)) (by first | exact rmN (k := 43) hu rfl | exact rmN (k := 83) hu rfl | exact rmN (k := 123) hu rfl | exact rmN (k := 163) hu rfl | ((try dsimp only [ktrTop]); omega)) (by assumption) (by assumption) (by assumption) (by assumption) (by assumption) ?_); intro _ _ _ _ _ _ _ _ _ _ _ _)) | (k_unfold; (try dsimp only)) | (k_end; kc_close) | walk1 | (dsimp only; first | ((with_reducible show wpAny _ _ (PySem.call (Value.builtin "str.replace") _ _) _ _ _); (k_here; k_dflt (refine call_replace1 (by assumption) (by decide +kernel) (by omega) (by decide +kernel) (by assumption) ?_); intro _ _)) | ((with_reducible show wpAny _ _ (PySem.call (Value.builtin "str.rstrip") _ _) _ _ _); (k_here; k_dflt (refine call_rstrip (by assumption) (by assumption) (by assumption) ?_); intro _ _ _)) | ((with_reducible show wpAny _ _ (PySem.call (Value.ref _) _ _) _ _ _); (k_here; (with_reducible show wpAny _ _ (call (Value.ref 95) _ _) _ _ _); k_dflt (refine inner_c (by k_asm) (by with_reducible assumption) (by k_asm) (by with_reducible assumption) (by assumption) (by k_asm) rfl (by first | exact rmN (k := 6) hd rfl | exact rmN (k := 11) hd rfl | exact rmN (k := 16) hd rfl | exact rmN (k := 21) hd rfl | exact rmN (k := 26) hd rfl | ((try dsimp only [ktrTop]); omega)) (by first | exact rmN (k := 43) hu rfl | exact rmN (k := 83) hu rfl | exact rmN (k := 123) hu rfl | exact rmN (k := 163) hu rfl | ((try dsimp only [ktrTop]); omega)) (by assumption) (by assumption) (by assumption) (by assumption) (by assumption) ?_); intro _ _ _ _ _ _ _ _ _ _ _ _)) | walk1) | (leave1; (try dsimp only)))
  rename Fr _ _ _ _ => F4
  rename News _ _ _ _ => N4
  exact ret _ _ _ _ _ _ (by assumption) (by assumption) F4 N4 (by assumption) (by assumption)
end Mine

end
section -- P13
open PySem PySem.W PyProof.Rows
set_option maxRecDepth 100000
namespace Mine
/-- what a turn leaves, the draws told too -/
noncomputable def TurnD (h₀ : Heap) (L : Addr) (s : Shared) (I : Addr) (o : Obj) (Q : Flow → Shared → Prop) (J : (Str → Option Value) → List (Addr × Obj) → Prop) (f : Flow) (s' : Shared) : Prop :=
  match f with
  | .ret v => Q (.ret v) s'
  | .brk => Q .next s'
  | _ => ∃ h' tk dr m' n', s' = { s with heap := h', toks := tk, drawn := dr } ∧ Fr h₀ L h' m' ∧ News h₀ L h' ((I, o) :: n') ∧ (∀ p ∈ n', p.1 ≠ I) ∧ J m' n'
section
variable {prog : Program} {w : World} {A : Around} {E : Value → Shared → Prop} {s : Shared} {env : Env} {h₀ : Heap} {x : Str} {px : Pos} {body : List Stmt} {Q : Flow → Shared → Prop}
theorem loop_D {I : Addr} {n : Nat} {P : Nat → Value → Prop} {St : Nat → Heap → Prop} {m : Str → Option Value} {news : List (Addr × Obj)} {o₀ : Obj} (W : Walks prog w A I [I] [I] n P St)
    (hL : env.locals ≠ I) (hI0 : h₀.get? I = none) (hst : St 0 s.heap) (hSt : ∀ i h, St i h → ∃ o, h.get? I = some o) (F : Fr h₀ env.locals s.heap m) (N : News h₀ env.locals s.heap ((I, o₀) :: news)) (off : ∀ p ∈ news, p.1 ≠ I)
    (J : Nat → (Str → Option Value) → List (Addr × Obj) → Prop) (h0 : J 0 m news)
    (turn : ∀ i v m₁ n₁ o h tk dr, i < n → P i v → J i m₁ n₁ → (∀ p ∈ n₁, p.1 ≠ I) → Fr h₀ env.locals h m₁ → News h₀ env.locals h ((I, o) :: n₁) →
      wpAny (model prog w) A (assign (.Name x px) env v) (fun _ s₂ => wpAny (model prog w) A (execs body env) (TurnD h₀ env.locals s I o Q (J (i + 1))) E s₂) E { s with heap := h, toks := tk, drawn := dr })
    (done : ∀ m₁ n₁ h tk dr, J n m₁ n₁ → Fr h₀ env.locals h m₁ → News h₀ env.locals h n₁ → Q .next { s with heap := h, toks := tk, drawn := dr })
    (hE : PassesOwn (model prog w) A env E) :
    codeAny (model prog w) A (.forLoop (.Name x px) (.ref I) body [] env) (fun r s' => match r with | .ok f => Q f s' | .error e => cameBackBy (model prog w) A env E e s') s := by
  refine codeAny_forLoop_any
    (fun k s' => ∃ h' tk dr m' n' o i, s' = { s with heap := h', toks := tk, drawn := dr } ∧ St i h' ∧ Fr h₀ env.locals h' m' ∧ News h₀ env.locals h' ((I, o) :: n') ∧ (∀ p ∈ n', p.1 ≠ I) ∧ J i m' n' ∧ i ≤ n ∧ k = n + 1 - i) ?_ (n + 1)
    ⟨s.heap, s.toks, s.drawn, m, news, o₀, 0, rfl, hst, F, N, off, h0, Nat.zero_le _, rfl⟩
  rintro k s' ⟨h', tk, dr, m', n', o, i, rfl, hst', F', N', off', hJ, hi, rfl⟩
  have next : ∀ h₁ : Heap, (∀ b o, b ∉ [I] → h'.get? b = some o → h₁.get? b = some o) → Fr h₀ env.locals h₁ m' ∧ News h₀ env.locals h₁ n' := fun h₁ hk₁ =>
    ⟨⟨F'.ns.at' fun o e => hk₁ _ o (by simpa using hL) e, fun b o e => hk₁ b o (by intro hb; rw [List.mem_singleton.mp hb, hI0] at e; cases e) (F'.keep b o e), F'.above⟩,
     fun p hp => ⟨hk₁ _ _ (by simpa using off' p hp) (N' p (.tail _ hp)).1, (N' p (.tail _ hp)).2⟩⟩
  by_cases hlt : i < n
  · refine W.item i _ _ _ hlt hst' fun v h₁ tk₁ hP hst₁ hk₁ => ?_
    obtain ⟨F₁, N₁⟩ := next h₁ hk₁
    obtain ⟨o₁, ho₁⟩ := hSt _ _ hst₁
    have N₂ : News h₀ env.locals h₁ ((I, o₁) :: n') := fun p hp => by
      rcases List.mem_cons.mp hp with rfl | hp
      · exact ⟨ho₁, (N' (I, o) (.head _)).2⟩
      · exact N₁ p hp
    show wpAny (model prog w) A (letOwnedTupleGo (.Name x px) (.ref I) v) _ _ _
    refine wpAny_of_eq (a := ()) rfl ?_
    refine wpAny_passesOwn hE (wpAny_mono (turn i v m' n' o₁ h₁ tk₁ dr hlt hP hJ off' F₁ N₂) (fun _ s₂ h₂ => wpAny_passesOwn hE (wpAny_mono h₂ (fun f s₃ h₃ => ?_) fun _ _ e => e)) fun _ _ e => e)
    cases f with
    | ret v => exact h₃
    | brk => exact h₃
    | cont =>
      obtain ⟨h₄, tk₄, dr₄, m₄, n₄, rfl, F₄, N₄, off₄, hJ₄⟩ := h₃
      refine ⟨n + 1 - (i + 1), by lia  , h₄, tk₄, dr₄, m₄, n₄, o₁, i + 1, rfl, W.frame _ _ _ hst₁ fun b hb q e => ?_, F₄, N₄, off₄, hJ₄, hlt, rfl⟩
      rw [List.mem_singleton.mp hb] at e ⊢
      rw [ho₁] at e
      cases e
      exact (N₄ (I, o₁) (.head _)).1
    | next =>
      obtain ⟨h₄, tk₄, dr₄, m₄, n₄, rfl, F₄, N₄, off₄, hJ₄⟩ := h₃
      refine ⟨n + 1 - (i + 1), by lia  , h₄, tk₄, dr₄, m₄, n₄, o₁, i + 1, rfl, W.frame _ _ _ hst₁ fun b hb q e => ?_, F₄, N₄, off₄, hJ₄, hlt, rfl⟩
      rw [List.mem_singleton.mp hb] at e ⊢
      rw [ho₁] at e
      cases e
      exact (N₄ (I, o₁) (.head _)).1
  · have hin : i = n := by lia  
    subst hin
    refine W.done _ _ _ hst' fun h₁ tk₁ hk₁ => wpAny_execs_nil ?_
    obtain ⟨F₁, N₁⟩ := next h₁ hk₁
    exact done m' n' h₁ tk₁ dr hJ F₁ N₁
end
end Mine
namespace Mine
/-- a loop that is entered with its iterator at hand -/
noncomputable def LoopD (prog : Program) (w : World) (A : Around) (x : Str) (px : Pos) (body : List Stmt) (env : Env) (Q : Flow → Shared → Prop) (E : Value → Shared → Prop) (it : Value) (s : Shared) : Prop :=
  codeAny (model prog w) A (.forLoop (.Name x px) it body [] env) (fun r s' => match r with | .ok f => Q f s' | .error e => cameBackBy (model prog w) A env E e s') s
section
variable {prog : Program} {w : World} {A : Around} {E : Value → Shared → Prop} {s : Shared} {env : Env} {h₀ : Heap} {x : Str} {px : Pos} {body : List Stmt} {Q : Flow → Shared → Prop}
theorem For_D {iter : Expr} {pos : Pos} (h : wpAny (model prog w) A (eval iter env) (fun xv s₁ => wpAny (model prog w) A (pyIter xv) (fun it s₂ => LoopD prog w A x px body env Q E it s₂) E s₁) E s)
    (hs : ∀ x, foldedSetIterable iter env x = pure x := by intro _; rfl) :
    wpAny (model prog w) A (exec (.For (.Name x px) iter body [] pos) env) Q E s :=
  wpAny_For (wpAny_mono h (fun _ _ h₁ => wpAny_mono h₁ (fun _ _ h₂ => h₂) fun _ _ e => e) fun _ _ e => e) hs
theorem str_D {L : Addr} {y : Str} {t : Tok} {m : Str → Option Value} {news : List (Addr × Obj)} (J : Nat → (Str → Option Value) → List (Addr × Obj) → Prop) (hh : A.handled = none) (F : Fr h₀ L s.heap m) (N : News h₀ L s.heap news) (h0 : J 0 m news)
    (turn : ∀ I i c u m₁ n₁ o h tk dr, y.cps[i]? = some c → J i m₁ n₁ → (∀ p ∈ n₁, p.1 ≠ I) → Fr h₀ L h m₁ → News h₀ L h ((I, o) :: n₁) →
      wpAny (model prog w) A (assign (.Name x px) env (.str ⟨#[c]⟩ u)) (fun _ s₂ => wpAny (model prog w) A (execs body env) (TurnD h₀ L s I o Q (J (i + 1))) E s₂) E { s with heap := h, toks := tk, drawn := dr })
    (done : ∀ m₁ n₁ h tk dr, J y.cps.size m₁ n₁ → Fr h₀ L h m₁ → News h₀ L h n₁ → Q .next { s with heap := h, toks := tk, drawn := dr })
    (hL : env.locals = L := by rfl) (hE : PassesOwn (model prog w) A env E := by passes_own) :
    wpAny (model prog w) A (pyIter (.str y t)) (fun it s₂ => LoopD prog w A x px body env Q E it s₂) E s := by
  subst hL
  have hnew := next_is_new F
  have hlt : env.locals ≠ s.heap.objs.size := Nat.ne_of_lt F.ns.lt
  have offN : ∀ p ∈ news, p.1 ≠ s.heap.objs.size := fun p hp => Nat.ne_of_lt (Heap.lt_size (N p hp).1)
  have N' : ∀ o, o.isFreed = false → News h₀ env.locals (s.heap.push o) ((s.heap.objs.size, o) :: news) := fun o ho p hp => by
    rcases List.mem_cons.mp hp with rfl | hp
    · exact ⟨Heap.get?_push_size _ ho, fun e => hlt e.symm, hnew⟩
    · exact ⟨Heap.get?_push_of_some _ (N p hp).1, (N p hp).2⟩
  cases ha : y.cps.all (· < 128)
  · refine wpAny_pyIter_wide ha ?_
    exact loop_D (s := { s with heap := s.heap.push _ }) (Walks.strWide hh _ y t) hlt hnew ⟨_, Heap.get?_push_size _ rfl, rfl, rfl⟩ (fun i h st => let ⟨o, e, _⟩ := st; ⟨o, e⟩) (F.push _) (N' _ rfl) offN J h0
      (fun i v m₁ n₁ o h tk dr hi hP hJ off F₁ N₁ => by obtain ⟨c, u, hc, rfl⟩ := hP; exact turn _ i c u m₁ n₁ o h tk dr hc hJ off F₁ N₁) done hE
  · refine wpAny_pyIter_ascii ha ?_
    exact loop_D (s := { s with heap := s.heap.push _ }) (Walks.strAscii hh _ y t) hlt hnew ⟨_, Heap.get?_push_size _ rfl, rfl, rfl⟩ (fun i h st => let ⟨o, e, _⟩ := st; ⟨o, e⟩) (F.push _) (N' _ rfl) offN J h0
      (fun i v m₁ n₁ o h tk dr hi hP hJ off F₁ N₁ => by obtain ⟨c, u, hc, rfl⟩ := hP; exact turn _ i c u m₁ n₁ o h tk dr hc hJ off F₁ N₁) done hE
theorem range_D {L : Addr} {r : Addr} {b : Int} {t u v : Tok} {n : Nat} {m : Str → Option Value} {news : List (Addr × Obj)} (J : Nat → (Str → Option Value) → List (Addr × Obj) → Prop) (hh : A.handled = none)
    (hr : IsRange s.heap r 0 b 1 t u v) (hsmall : Builtin.Range.small 0 b 1 = true) (hn : Builtin.Range.rangeSize 0 b 1 = (n : Int)) (F : Fr h₀ L s.heap m) (N : News h₀ L s.heap news) (h0 : J 0 m news)
    (turn : ∀ I i u m₁ n₁ o h tk dr, i < n → J i m₁ n₁ → (∀ p ∈ n₁, p.1 ≠ I) → Fr h₀ L h m₁ → News h₀ L h ((I, o) :: n₁) →
      wpAny (model prog w) A (assign (.Name x px) env (.int (i : Int) u)) (fun _ s₂ => wpAny (model prog w) A (execs body env) (TurnD h₀ L s I o Q (J (i + 1))) E s₂) E { s with heap := h, toks := tk, drawn := dr })
    (done : ∀ m₁ n₁ h tk dr, J n m₁ n₁ → Fr h₀ L h m₁ → News h₀ L h n₁ → Q .next { s with heap := h, toks := tk, drawn := dr })
    (hL : env.locals = L := by rfl) (hE : PassesOwn (model prog w) A env E := by passes_own) :
    wpAny (model prog w) A (pyIter (.ref r)) (fun it s₂ => LoopD prog w A x px body env Q E it s₂) E s := by
  subst hL
  have hnew := next_is_new F
  have hlt : env.locals ≠ s.heap.objs.size := Nat.ne_of_lt F.ns.lt
  have offN : ∀ p ∈ news, p.1 ≠ s.heap.objs.size := fun p hp => Nat.ne_of_lt (Heap.lt_size (N p hp).1)
  have N' : ∀ o, o.isFreed = false → News h₀ env.locals (s.heap.push o) ((s.heap.objs.size, o) :: news) := fun o ho p hp => by
    rcases List.mem_cons.mp hp with rfl | hp
    · exact ⟨Heap.get?_push_size _ ho, fun e => hlt e.symm, hnew⟩
    · exact ⟨Heap.get?_push_of_some _ (N p hp).1, (N p hp).2⟩
  refine wpAny_pyIter_range hr hsmall ?_
  exact loop_D (s := { s with heap := s.heap.push _ }) (Walks.range hh _ 0 1 n) hlt hnew (by show IsRangeIter _ _ _ _ _; rw [hn]; simpa using Heap.get?_push_size _ rfl) (fun i h st => ⟨_, st⟩) (F.push _) (N' _ rfl) offN J h0
    (fun i v m₁ n₁ o h tk dr hi hP hJ off F₁ N₁ => by
      obtain ⟨u, rfl⟩ := hP
      have e : (0 : Int) + (i : Int) * 1 = (i : Int) := by lia  
      rw [e]
      exact turn _ i u m₁ n₁ o h tk dr hi hJ off F₁ N₁) done hE
end
end Mine

end
section -- P14
open PySem PySem.W PyProof.Rows PySem.Calls
set_option maxRecDepth 100000
namespace Mine
open PySem.F PySem.Builtin PySem.Builtin.Str
/-- the letter of a job -/
noncomputable def letter (k : Nat) : Str := ⟨#[97 + k]⟩
noncomputable def upper (k : Nat) : Str := ⟨#[65 + k]⟩
noncomputable def rowStr (l : List Nat) : Str := ⟨(l.map (97 + ·)).toArray⟩
theorem letter_inj {i j : Nat} (h : letter i = letter j) : i = j := by
  have : (#[97 + i] : Array Nat) = #[97 + j] := congrArg Str.cps h
  simpa using this
theorem letter_beq (i j : Nat) : (letter i == letter j) = decide (i = j) := by
  by_cases h : i = j
  · subst h; simp
  · rw [decide_eq_false h]
    exact beq_eq_false_iff_ne.mpr fun e => h (letter_inj e)
theorem letter_is (k : Nat) (hk : k < 5) : letter k = [Str.ofString "a", Str.ofString "b", Str.ofString "c", Str.ofString "d", Str.ofString "e"].getD k (Str.ofString "") := by
  exact lt5 (P := fun k => letter k = [Str.ofString "a", Str.ofString "b", Str.ofString "c", Str.ofString "d", Str.ofString "e"].getD k (Str.ofString "")) rfl rfl rfl rfl rfl k hk
theorem item5 (k : Nat) (hk : k < 5) : Txt.item (Str.ofString "abcde") (k : Int) = letter k := by
  refine lt5 (P := fun k => Txt.item (Str.ofString "abcde") (k : Int) = letter k) ?_ ?_ ?_ ?_ ?_ k hk <;> decide +kernel
section
variable {prog : Program} {w : World} {A : Around} {E : Value → Shared → Prop} {s : Shared} {Q : Value → Shared → Prop}
theorem call_index5 {k : Nat} {t u : Tok} (hk : k < 5) (h : ∀ t' tk, Q (.int (k : Int) t') { s with toks := tk }) : wpAny (model prog w) A (call (.builtin "str.index") [.str (Str.ofString "abcde") t, .str (letter k) u]) Q E s := by
  have go : ∀ i rest, occurrences (Str.ofString "abcde") (letter k) 0 (Str.ofString "abcde").length 1 = i :: rest → i = k → wpAny (model prog w) A (call (.builtin "str.index") [.str (Str.ofString "abcde") t, .str (letter k) u]) Q E s := fun i rest ho e => by
    subst e
    exact call_gives F.slot_str_index (typeIs_str _ _ _) F.entry_str_index (F.args_str_index_2 _ _) (gives_str_index _ _ t u i rest ho) (h _ _)
  have ho : occurrences (Str.ofString "abcde") (letter k) 0 (Str.ofString "abcde").length 1 = [k] := by
    refine lt5 (P := fun k => occurrences (Str.ofString "abcde") (letter k) 0 (Str.ofString "abcde").length 1 = [k]) ?_ ?_ ?_ ?_ ?_ k hk <;> decide +kernel
  exact go k [] ho rfl
end
/-- a job's tuple -/
noncomputable def JobAt (n : List (Addr × Obj)) (t : Addr) (d w : Int) (b : Nat) : Prop := ∃ u1 u2 u3, (t, tupO [.int d u1, .int w u2, .int (b : Int) u3]) ∈ n
noncomputable def JobsAt (n : List (Addr × Obj)) (JL : Addr) (d w : Nat → Int) (b : Nat → Nat) : Prop :=
  ∃ t0 t1 t2 t3 t4 ep, (JL, lstO [.ref t0, .ref t1, .ref t2, .ref t3, .ref t4] ep) ∈ n ∧ JobAt n t0 (d 0) (w 0) (b 0) ∧ JobAt n t1 (d 1) (w 1) (b 1) ∧ JobAt n t2 (d 2) (w 2) (b 2) ∧ JobAt n t3 (d 3) (w 3) (b 3) ∧ JobAt n t4 (d 4) (w 4) (b 4)
theorem JobAt.mono {n n' : List (Addr × Obj)} {t : Addr} {d w : Int} {b : Nat} (h : JobAt n t d w b) (k : ∀ p ∈ n, p ∈ n') : JobAt n' t d w b := h.imp fun _ => Exists.imp fun _ => Exists.imp fun _ => k _
theorem JobsAt.mono {n n' : List (Addr × Obj)} {JL : Addr} {d w : Nat → Int} {b : Nat → Nat} (h : JobsAt n JL d w b) (k : ∀ p ∈ n, p ∈ n') : JobsAt n' JL d w b :=
  h.imp fun _ => Exists.imp fun _ => Exists.imp fun _ => Exists.imp fun _ => Exists.imp fun _ => Exists.imp fun _ => And.imp (k _) (And.imp (JobAt.mono · k) (And.imp (JobAt.mono · k) (And.imp (JobAt.mono · k) (And.imp (JobAt.mono · k) (JobAt.mono · k)))))
theorem JobsAt.get {n : List (Addr × Obj)} {JL : Addr} {d w : Nat → Int} {b : Nat → Nat} (h : JobsAt n JL d w b) {k : Nat} (hk : k < 5) : ∃ vs ep t, (JL, lstO vs ep) ∈ n ∧ vs[k]? = some (.ref t) ∧ vs.length = 5 ∧ JobAt n t (d k) (w k) (b k) := by
  obtain ⟨t0, t1, t2, t3, t4, ep, ml, h0, h1, h2, h3, h4⟩ := h
  exact ⟨_, _, [t0, t1, t2, t3, t4].getD k t0, ml, lt5 (P := fun k => [Value.ref t0, .ref t1, .ref t2, .ref t3, .ref t4][k]? = some (.ref ([t0, t1, t2, t3, t4].getD k t0))) rfl rfl rfl rfl rfl k hk, rfl,
    lt5 (P := fun k => JobAt n ([t0, t1, t2, t3, t4].getD k t0) (d k) (w k) (b k)) h0 h1 h2 h3 h4 k hk⟩
section
variable {prog : Program} {w : World} {A : Around} {E : Value → Shared → Prop} {s : Shared} {h₀ : Heap} {L : Addr}
/-- an item of a list of the ledger, at a place that is no numeral -/
theorem sub_list {value slice : PySem.Expr} {l : Addr} {vs : List Value} {ep : Nat} {news : List (Addr × Obj)} {k : Nat} {u : Tok} {x : Value} {Q : Value → Shared → Prop} (N : News h₀ L s.heap news) (hm : (l, lstO vs ep) ∈ news) (hx : vs[k]? = some x) (hk : k < 1000)
    (h : Q x s) (hs : subscripted slice false (.ref l) (.int (k : Int) u) = operate [.ref l, .int (k : Int) u] (getItem (.ref l) (.int (k : Int) u)) := by with_unfolding_all rfl) :
    wpAny (model prog w) A (subscriptTail value slice (.ref l) (.int (k : Int) u)) Q E s := by
  have hl : s.heap.IsList l vs.toArray := News.isList N hm
  exact tail_any hl.typeIs PySem.slot_list_getitem.lookup (wpAny_getItem_list hl (by lia  ) (by lia  ) (by simpa using hx) h) hs
theorem sub_str5 {value slice : PySem.Expr} {k : Nat} {t u : Tok} {Q : Value → Shared → Prop} (hk : k < 5) (h : ∀ t' tk, Q (.str (letter k) t') { s with toks := tk })
    (hs : subscripted slice false (.str (Str.ofString "abcde") t) (.int (k : Int) u) = operate [.str (Str.ofString "abcde") t, .int (k : Int) u] (getItem (.str (Str.ofString "abcde") t) (.int (k : Int) u)) := by with_unfolding_all rfl)
    (ht : ∀ r, letTemporaryGo value (.str (Str.ofString "abcde") t) r = pure () := by intro _; with_unfolding_all rfl) :
    wpAny (model prog w) A (subscriptTail value slice (.str (Str.ofString "abcde") t) (.int (k : Int) u)) Q E s := by
  have e : (Str.ofString "abcde").length = 5 := by decide +kernel
  exact item_str (fitsSsize_of (N := 9223372036854775808) (by lia  ) (by lia  ) (Int.le_refl _)) (by rw [e]; lia  ) (by rw [e]; lia  ) (fun _ => by rw [item5 k hk]; exact h _ _) hs ht
end
/-- the told run of a row: when it ends, what it has cost, when each is done -/
noncomputable def runF (d w : Nat → Int) : List Nat → Int → Int → List (Str × Int) → Int × Int × List (Str × Int)
  | [], c, t, u => (c, t, u)
  | k :: r, c, t, u => runF d w r (c + d k) (t + w k * (c + d k)) (u ++ [(letter k, c + d k)])
noncomputable def FeasAt (b : Nat → Nat) : List Nat → List Nat → Prop
  | _, [] => True
  | seen, k :: r => k < 5 ∧ k ∉ seen ∧ (k = 0 ∨ b k ∈ seen) ∧ FeasAt b (seen ++ [k]) r
theorem rowAt {seen rest : List Nat} {c : Nat} (h : (rowStr (seen ++ rest)).cps[seen.length]? = some c) : ∃ k r, rest = k :: r ∧ c = 97 + k := by
  have h' : (((seen ++ rest).map (97 + ·)).toArray)[seen.length]? = some c := h
  rw [List.getElem?_toArray, List.getElem?_map, List.getElem?_append_right (Nat.le_refl _), Nat.sub_self] at h'
  cases rest with
  | nil => cases h'
  | cons k r => exact ⟨k, r, rfl, by simpa using h'.symm⟩
theorem rowEnd {seen rest : List Nat} (h : seen.length = (rowStr (seen ++ rest)).cps.size) : rest = [] := by
  have : (rowStr (seen ++ rest)).cps.size = seen.length + rest.length := by unfold rowStr; simp
  exact List.eq_nil_of_length_eq_zero (by lia  )
theorem ne_a (k : Nat) : (letter k != Str.ofString "a") = !decide (k = 0) := by
  have e : Str.ofString "a" = letter 0 := rfl
  show (!(letter k == Str.ofString "a")) = _
  rw [e, letter_beq]
theorem CV.some_of {a : List (Str × Value)} {l : List (Str × Int)} {k : Str} (h : CV a l) (hk : k ∈ l.map (·.1)) : (valueAt a k).isSome = true := by
  rcases h.at (k := k) with ⟨n, t, e, _⟩ | ⟨_, e⟩
  · rw [e]; rfl
  · exfalso
    unfold getS at e
    rw [Option.map_eq_none_iff, List.find?_eq_none] at e
    obtain ⟨p, hp, rfl⟩ := List.mem_map.mp hk
    exact e p hp (by simp)
theorem putS_new {l : List (Str × Int)} {k : Str} {v : Int} (h : k ∉ l.map (·.1)) : putS l k v = l ++ [(k, v)] := by
  unfold putS
  rw [if_neg]
  intro e
  obtain ⟨p, hp, q⟩ := List.any_eq_true.mp e
  exact h (List.mem_map.mpr ⟨p, hp, by simpa using q⟩)
inductive WL (n : List (Addr × Obj)) : List Value → List Int → Prop
  | nil : WL n [] []
  | cons {t : Addr} {d w b : Int} {u1 u2 u3 : Tok} {vs : List Value} {l : List Int} (h : (t, tupO [.int d u1, .int w u2, .int b u3]) ∈ n) (r : WL n vs l) : WL n (.ref t :: vs) (w :: l)
theorem ints_snoc {vs : List Value} {ns : List Int} {x : Int} {t : Tok} (h : IntsAre vs ns) : IntsAre (vs ++ [.int x t]) (ns ++ [x]) := by
  induction h with
  | nil => exact .cons _ _ .nil
  | cons i t _ ih => exact .cons _ _ ih
theorem News.drop2 {h₀ h : Heap} {L : Addr} {a b : Addr × Obj} {n : List (Addr × Obj)} (N : News h₀ L h (a :: b :: n)) : News h₀ L h (a :: n) := fun p hp => N p (by
  rcases List.mem_cons.mp hp with rfl | hp
  · exact .head _
  · exact .tail _ (.tail _ hp))
end Mine
namespace Mine
/-- may a job stand next, behind these -/
noncomputable def okNext (b : Nat → Nat) (done : List Nat) (k : Nat) : Bool := !done.contains k && (k == 0 || done.contains (b k))
noncomputable def minL : List Int → Int
  | [] => 0
  | x :: r => r.foldl min x
/-- the least cost of all rows that go on from here -/
noncomputable def leastF (d w : Nat → Int) (b : Nat → Nat) : Nat → List Nat → Int → Int
  | 0, _, _ => 0
  | n + 1, done, c => minL (((List.range 5).filter (okNext b done)).map fun k => w k * (c + d k) + leastF d w b n (done ++ [k]) (c + d k))
end Mine
namespace Mine
theorem anyCast (done : List Nat) (i : Nat) : ((done.map (fun k : Nat => (k : Int))).any fun x => x == (i : Int)) = done.contains i := by
  induction done with
  | nil => rfl
  | cons a r ih =>
    simp only [List.map_cons, List.any_cons, ih, List.contains_cons]
    congr 1
    by_cases h : a = i
    · subst h; simp
    · have h1 : ((a : Int) == (i : Int)) = false := beq_eq_false_iff_ne.mpr (by lia  )
      have h2 : (i == a) = false := beq_eq_false_iff_ne.mpr (fun e => h e.symm)
      rw [h1, h2]
theorem okFilter (ok : Nat → Bool) (i : Nat) : (List.range (i + 1)).filter ok = (List.range i).filter ok ++ (if ok i then [i] else []) := by
  rw [List.range_succ, List.filter_append]
  congr 1
  simp only [List.filter_cons, List.filter_nil]
theorem okNext_in {b : Nat → Nat} {done : List Nat} {i : Nat} (h : ((done.map (fun k : Nat => (k : Int))).any fun x => x == (i : Int)) = true) : okNext b done i = false := by
  rw [anyCast] at h; unfold okNext; rw [h]; rfl
theorem okNext_zero {b : Nat → Nat} {done : List Nat} {i : Nat} (h : ((done.map (fun k : Nat => (k : Int))).any fun x => x == (i : Int)) = false) (h0 : (i : Int) = 0) : okNext b done i = true := by
  rw [anyCast] at h; have e : i = 0 := by lia  
  subst e; unfold okNext; rw [h]; rfl
theorem okNext_yes {b : Nat → Nat} {done : List Nat} {i : Nat} (h : ((done.map (fun k : Nat => (k : Int))).any fun x => x == (i : Int)) = false) (h1 : ((done.map (fun k : Nat => (k : Int))).any fun x => x == (b i : Int)) = true) : okNext b done i = true := by
  rw [anyCast] at h h1; unfold okNext; rw [h, h1]; simp
theorem okNext_no {b : Nat → Nat} {done : List Nat} {i : Nat} (h0 : (i : Int) ≠ 0) (h1 : ((done.map (fun k : Nat => (k : Int))).any fun x => x == (b i : Int)) = false) : okNext b done i = false := by
  rw [anyCast] at h1; unfold okNext; rw [h1]
  have : (i == 0) = false := beq_eq_false_iff_ne.mpr (by lia  )
  rw [this]; simp
theorem minL_of {l : List Int} {M : Int} (h : M ∈ l) (hm : ∀ a, a ∈ l → M ≤ a) : minL l = M := by
  cases l with
  | nil => cases h
  | cons x r =>
    have key : ∀ (r : List Int) (x : Int), r.foldl min x ≤ x ∧ (∀ a ∈ r, r.foldl min x ≤ a) ∧ (r.foldl min x = x ∨ r.foldl min x ∈ r) := by
      intro r
      induction r with
      | nil => intro x; exact ⟨Int.le_refl _, fun a h => absurd h (List.not_mem_nil), Or.inl rfl⟩
      | cons y r ih =>
        intro x
        obtain ⟨h1, h2, h3⟩ := ih (min x y)
        refine ⟨Int.le_trans h1 (Int.min_le_left _ _), fun a ha => ?_, ?_⟩
        · rcases List.mem_cons.mp ha with rfl | ha
          · exact Int.le_trans h1 (Int.min_le_right _ _)
          · exact h2 a ha
        · rcases h3 with e | e
          · rw [List.foldl_cons, e]
            by_cases q : x ≤ y
            · left; lia  
            · right; have : min x y = y := by lia  
              rw [this]; exact .head _
          · exact .inr (.tail _ e)
    obtain ⟨h1, h2, h3⟩ := key r x
    show r.foldl min x = M
    have a1 : r.foldl min x ≤ M := by
      rcases List.mem_cons.mp h with rfl | h
      · exact h1
      · exact h2 M h
    have a2 : M ≤ r.foldl min x := by
      rcases h3 with e | e
      · rw [e]; exact hm x (.head _)
      · exact hm _ (.tail _ e)
    lia  
end Mine
namespace Mine
theorem nodup_le : ∀ (n : Nat) (l : List Nat), l.Nodup → (∀ k ∈ l, k < n) → l.length ≤ n
  | 0, l, _, h => by
    cases l with
    | nil => exact Nat.le_refl _
    | cons a r => exact absurd (h a (.head _)) (Nat.not_lt_zero _)
  | n + 1, l, hn, h => by
    by_cases hm : n ∈ l
    · have h1 := nodup_le n (l.erase n) (hn.erase n) (fun k hk => by
        have h2 := (hn.mem_erase_iff).mp hk
        have h3 := h k h2.2
        lia  )
      have h4 := List.length_erase_of_mem hm
      lia  
    · exact Nat.le_succ_of_le (nodup_le n l hn (fun k hk => by
        have h3 := h k hk
        have h5 : k ≠ n := fun e => hm (e ▸ hk)
        lia  ))
theorem full5 {done : List Nat} (hn : done.Nodup) (h : ∀ k ∈ done, k < 5) (hl : done.length = 5) {i : Nat} (hi : i < 5) : i ∈ done := by
  by_cases q : i ∈ done
  · exact q
  · have := nodup_le 5 (i :: done) (List.nodup_cons.mpr ⟨q, hn⟩) (fun k hk => by
      rcases List.mem_cons.mp hk with rfl | hk
      · exact hi
      · exact h k hk)
    simp at this
    lia  
end Mine

end
section -- W21
theorem Mine.off_W21 : True := by w_top off; trivial
open PySem PySem.W PyProof.Rows
set_option maxRecDepth 100000
namespace Mine
variable {w : World} {p : Program} {loose : List Str} {mean : ExcName → Option Value} {mg mb : Str → Option Value} {dp un : Nat} {gd : Option (List Code)} {cn : Str} {cs : Scope} {a : Addr} {ccd : Value} {cl : List (Str × Addr)} {outer : List Env} {A₀ : Around} {base h₀ : Heap} {L : Addr} {m : Str → Option Value} {news : List (Addr × Obj)} {s : Shared} {Q E : Value → Shared → Prop}
noncomputable abbrev KD := PySem.strKind PySem.Challenge.rw_wy0045_01.row.prog
set_option maxHeartbeats 8000000 in
theorem told_c (B : Below A₀ base outer h₀) (F : Fr h₀ L s.heap m) (X : (hd.heap_1 w.params).In h₀) (N : News h₀ L s.heap news) (T : Top p loose mean mg mb h₀) (hk : cs.kind = .function) (hd : dp + 5 < recursionLimit) (hu : un + 40 < cLine)
  {JL : Addr} {d wt : Nat → Int} {b : Nat → Nat} (JA : JobsAt news JL d wt b) (bd : ∀ k < 5, 1 ≤ d k ∧ d k ≤ 7) (bw : ∀ k < 5, 0 ≤ wt k ∧ wt k ≤ 19) (bb : ∀ k < 5, b k < 5) {row : List Nat} (fe : FeasAt b [] row) (hlr : row.length ≤ 5) {tr : Tok}
  (ret : ∀ r D o kD t1 t2 t3 t4 h' tk' dr, Fr h₀ L h' m → News h₀ L h' ((r, tupO [.int 5 t1, .int (runF d wt row 0 0 []).1 t2, .int [wt 0, wt 1, wt 2, wt 3, wt 4].sum t3, .int (runF d wt row 0 0 []).2.1 t4, .ref D]) :: (D, o) :: news) → (∀ p ∈ news, p.1 < D) → D < r → (D == sysModules) = false → o.IsDictOf (KD w) kD → CV kD (runF d wt row 0 0 []).2.2 → Q (.ref r) {s with heap := h', toks := tk', drawn := dr}) :
  wpAny (model PySem.Challenge.rw_wy0045_01.row.prog w) (ktrTop dp un gd cn cs L a ccd cl outer) (call (.ref 302) [.ref JL, .str (rowStr row) tr]) Q E s := by
  refine wpAny_call ?_
  k_dflt (refine' code_def ?k1 ?k2 ?k3 ?k4 ?k5 ?kA ?kF ?kK ?k6 ?k7 ?k8 ?k9 ?kB ?_ ?c2 ?c3 ?c4 ?c5; (case kA => exact rfl); (case kF => exact rfl); (case kK => first | assumption | exact rfl); (case k1 => k_asm); (case k2 => k_asm); (case k3 => k_asm); (case k4 => k_asm); (case k5 => k_asm); (case k6 => k_is); (case k7 => k_is); (case k8 => ktr_room); (case k9 => first | exact BindsTo.of_eq rfl | exact binds_K (by k_in) rfl (by k_is) rfl rfl rfl); (case c5 => decide); (case kB => exact locs rfl); (case c2 => exact rfl); (case c3 => exact rfl); (case c4 => exact rfl); k_whole; intro g' L' h1' FG' F' N' B' X' T'; (try dsimp only); (try k_fold))
  refine exec_join (fun s' => ∀ PP : Prop, (∀ h' tk m' D o, (s' = { s with heap := h', toks := tk }) → (Fr g' L' h' m') → (News g' L' h' ((D, o) :: news)) → (∀ p ∈ news, p.1 < D) → ((D == sysModules) = false) → (o.IsDictOf (KD w) []) → (m' (Str.ofString "until") = some (.ref D)) → (IntAt m' (Str.ofString "clock") 0) → (IntAt m' (Str.ofString "cost") 0) → (m' (Str.ofString "jobs") = some (.ref JL)) → (m' (Str.ofString "row") = some (.str (rowStr row) tr)) → PP) → PP) ?_ ?_
  · refine opq ?_
    intro QQ EE hQQ
    k_steps
    rename Fr _ _ _ _ => F3
    rename News _ _ _ _ => N3
    refine hQQ _ _ ?_
    exact Hold.mk ⟨rfl, fun PP kk => kk _ _ _ _ _ rfl F3 (fun p hp => N3 p (.tail _ hp)) (by assumption) (by assumption) (by assumption) rfl ⟨_, rfl⟩ ⟨_, rfl⟩ rfl rfl⟩
  clear F' N'
  intro s' hPP
  refine hPP _ ?_
  clear hPP
  rintro h' tk m' D o rfl F1 N1 lD loD dD q1 q2 q3 q4 q5
  have offD : ∀ p ∈ news, p.1 ≠ D := fun p hp => Nat.ne_of_lt (lD p hp)
  refine exec_join (fun s' => ∀ PP : Prop, (∀ h' tk dr m' o kD, (s' = { s with heap := h', toks := tk, drawn := dr }) → (Fr g' L' h' m') → (News g' L' h' ((D, o) :: news)) → (o.IsDictOf (KD w) kD) → (CV kD (runF d wt row 0 0 []).2.2) → (m' (Str.ofString "until") = some (.ref D)) → (IntAt m' (Str.ofString "clock") (runF d wt row 0 0 []).1) → (IntAt m' (Str.ofString "cost") (runF d wt row 0 0 []).2.1) → (m' (Str.ofString "jobs") = some (.ref JL)) → PP) → PP) ?_ ?_
  · refine opqQ ?_
    intro QQ hQQ
    refine For_D ?_
    k_steps
    refine str_D (fun i m₁ n₁ => ∃ o kD seen rest c t u, n₁ = ((D, o) :: news) ∧ o.IsDictOf (KD w) kD ∧ CV kD u ∧ row = seen ++ rest ∧ seen.length = i ∧ u.map (·.1) = seen.map letter ∧ FeasAt b seen rest ∧ runF d wt rest c t u = runF d wt row 0 0 [] ∧
      0 ≤ c ∧ c ≤ 7 * i ∧ 0 ≤ t ∧ t ≤ 1000 * i ∧
      m₁ (Str.ofString "until") = some (.ref D) ∧ IntAt m₁ (Str.ofString "clock") c ∧ IntAt m₁ (Str.ofString "cost") t ∧ m₁ (Str.ofString "jobs") = some (.ref JL)) rfl F1 N1
      ⟨o, [], [], row, 0, 0, [], rfl, dD, .nil, rfl, rfl, rfl, fe, rfl, by lia  , by lia  , by lia  , by lia  , q1, q2, q3, q4⟩ ?_ ?_
    · clear F1 N1 q1 q2 q3 q4 q5 dD
      rintro I i c u m₁ n₁ oI h tk dr hc ⟨o, kD, seen, rest, ck, ct, ut, rfl, dD, cv, er, es, eu, fe', erun, b1, b2, b3, b4, q1, ⟨tc, q2⟩, ⟨tt, q3⟩, q4⟩ hI F1 N1
      subst er es
      obtain ⟨k, r, rfl, rfl⟩ := rowAt hc
      obtain ⟨k5, kn, kb, fe'⟩ := fe'
      obtain ⟨vs, ep, tj, ml, hv, hvl, u1, u2, u3, mt⟩ := JA.get k5
      have ml' : (JL, lstO vs ep) ∈ (I, oI) :: (D, o) :: news := .tail _ (.tail _ ml)
      have mt' : (tj, tupO [.int (d k) u1, .int (wt k) u2, .int (b k : Int) u3]) ∈ (I, oI) :: (D, o) :: news := .tail _ (.tail _ mt)
      have b5 := bb k k5
      have hdI : I ≠ D := fun e => hI (D, o) (.head _) e.symm
      obtain ⟨d1, d2⟩ := bd k k5
      obtain ⟨w1, w2⟩ := bw k k5
      have si : seen.length + (k :: r).length ≤ 5 := by rw [← List.length_append]; exact hlr
      have si2 : seen.length ≤ 4 := by simp at si; lia  
      have hkD : kD.length ≤ sizeLine := by
        have h1 := cv.length
        have h2 : ut.length = seen.length := by have := congrArg List.length eu; simpa using this
        rw [sizeLine_eq]; lia  
      obtain ⟨bv, vi⟩ : ∃ bv, (valueAt kD (letter (b k))).isSome = bv := ⟨_, rfl⟩
      change wpAny _ _ (assign _ _ (.str (letter k) u)) _ _ _
      have m0 : 0 ≤ wt k * (ck + d k) := Int.mul_nonneg w1 (by lia  )
      have m1 : wt k * (ck + d k) ≤ 19 * 35 := Int.mul_le_mul w2 (by lia  ) (by lia  ) (by lia  )
      have cvp : ∀ tq, CV (stored kD (letter k) (.int (ck + d k) tq)) (ut ++ [(letter k, ck + d k)]) := fun tq => by
        have := cv.put (k := letter k) (n := ck + d k) (t := tq)
        rw [putS_new (by rw [eu]; intro hm; obtain ⟨j, hj, e⟩ := List.mem_map.mp hm; exact kn (letter_inj e ▸ hj))] at this
        exact this
      have offn : ∀ o', ∀ p ∈ (D, o') :: news, p.1 ≠ I := fun o' p hp => by
        rcases List.mem_cons.mp hp with rfl | hp
        · exact hdI.symm
        · exact hI p (.tail _ hp)
      repeat' (first | ((with_reducible show wpAny _ _ (setItem (Value.ref _) (Value.str _ _) _) _ _ _); (k_here; k_dflt (refine kda_set (knd := PySem.strKind _ _) (by with_reducible assumption) (by with_reducible assumption) (by k_updF) (by with_reducible assumption) (strKind_is _ _ _ _) (by assumption) ?_); intro _ _ _ Nq' _; (try dsimp only at Nq'))) | ((with_reducible show wpAny _ _ (subscriptTail _ _ _ _) _ _ _); (k_here; k_dflt (first | refine sub_list (by with_reducible assumption) (by k_mem) (by assumption) (by omega) ?_ | (refine sub_str5 (by assumption) ?_; intro _ _)))) | ((with_reducible show wpAny _ _ (PySem.call (Value.builtin "str.index") _ _) _ _ _); (k_here; k_dflt (refine call_index5 (by assumption) ?_); intro _ _)) | ((with_reducible show wpAny _ _ (compareOp CmpOp.NotIn (Value.str _ _) (Value.ref _)) _ _ _); (k_here; k_dflt (refine kdg_notin (knd := PySem.strKind _ _) (by with_reducible assumption) (by k_mem) (by with_reducible assumption) (by with_reducible assumption) (strKind_is _ _ _ _) _ (by with_reducible assumption) ?_))) | (k_unfold; (try dsimp only)) | (k_end; kc_close) | walk1 | (dsimp only; first | ((with_reducible show wpAny _ _ (setItem (Value.ref _) (Value.str _ _) _) _ _ _); (k_here; k_dflt (refine kda_set (knd := PySem.strKind _ _) (by with_reducible assumption) (by with_reducible assumption) (by k_updF) (by with_reducible assumption) (strKind_is _ _ _ _) (by assumption) ?_); intro _ _ _ Nq' _; (try dsimp only at Nq'))) | ((with_reducible show wpAny _ _ (subscriptTail _ _ _ _) _ _ _); (k_here; k_dflt (first | refine sub_list (by with_reducible assumption) (by k_mem) (by assumption) (by omega) ?_ | (refine sub_str5 (by assumption) ?_; intro _ _)))) | ((with_reducible show wpAny _ _ (PySem.call (Value.builtin "str.index") _ _) _ _ _); (k_here; k_dflt (refine call_index5 (by assumption) ?_); intro _ _)) | ((with_reducible show wpAny _ _ (compareOp CmpOp.NotIn (Value.str _ _) (Value.ref _)) _ _ _); (k_here; k_dflt (refine kdg_notin (knd := PySem.strKind _ _) (by with_reducible assumption) (by k_mem) (by with_reducible assumption) (by with_reducible assumption) (strKind_is _ _ _ _) _ (by with_reducible assumption) ?_))) | walk1) | (leave1; (try dsimp only)))
      · rename Fr _ _ _ _ => F3
        rename News _ _ _ _ => N3
        exact ⟨_, _, _, _, _, rfl, F3, N3, offn _, _, _, seen ++ [k], r, _, _, _, rfl, by assumption, cvp _, by simp, by simp, by simp [eu], fe', erun, by lia  , by lia  , by lia  , by lia  , q1, ⟨_, rfl⟩, ⟨_, rfl⟩, q4⟩
      · exfalso
        rename (letter k != Str.ofString "a") = true => c1
        rename bv = false => c2
        rw [ne_a] at c1
        rcases kb with e | e
        · rw [e] at c1; cases c1
        · have := cv.some_of (k := letter (b k)) (by rw [eu]; exact List.mem_map_of_mem e)
          rw [this] at vi
          rw [← vi] at c2; cases c2
      · rename Fr _ _ _ _ => F3
        rename News _ _ _ _ => N3
        exact ⟨_, _, _, _, _, rfl, F3, N3, offn _, _, _, seen ++ [k], r, _, _, _, rfl, by assumption, cvp _, by simp, by simp, by simp [eu], fe', erun, by lia  , by lia  , by lia  , by lia  , q1, ⟨_, rfl⟩, ⟨_, rfl⟩, q4⟩
    · rintro m₁ n₁ h tk dr ⟨o, kD, seen, rest, ck, ct, ut, rfl, dD, cv, er, es, eu, fe', erun, b1, b2, b3, b4, q1, q2, q3, q4⟩ F1 N1
      subst er
      have hrest := rowEnd es
      subst hrest
      k_steps
      refine hQQ _ _ ?_
      rw [← erun]
      exact Hold.mk ⟨rfl, fun PP kk => kk _ _ _ _ _ _ rfl F1 N1 dD cv q1 q2 q3 q4⟩
  clear F1 N1 q1 q2 q3 q4 q5 dD
  intro s' hPP
  refine hPP _ ?_
  clear hPP
  rintro h' tk dr m' o kD rfl F1 N1 dD cv q1 ⟨tc, q2⟩ ⟨tt, q3⟩ q4
  obtain ⟨t0, t1, t2, t3, t4, ep, ml, ⟨u01, u02, u03, j0⟩, ⟨u11, u12, u13, j1⟩, ⟨u21, u22, u23, j2⟩, ⟨u31, u32, u33, j3⟩, ⟨u41, u42, u43, j4⟩⟩ := JA
  have ml' : (JL, lstO [.ref t0, .ref t1, .ref t2, .ref t3, .ref t4] ep) ∈ (D, o) :: news := .tail _ ml
  repeat' (first | ((with_reducible show LCg.CompSrc _ _ _ _ _ _ _ _ _ _ _ _ _ _ ); refine Hold.out ?_) | ((with_reducible show wpAny _ _ (eval (Expr.ListComp _ _ _ _) _) _ _ _); (k_here; first | ((with_reducible show wpAny _ _ (eval (Expr.ListComp _ [⟨Expr.Name _ _, _, [], _⟩] _ _) _) _ _ _); k_dflt (refine LCg.ListComp_U (F₀ := by k_asm) (by with_unfolding_all rfl) (by decide) (by rfl) (by decide) (by rfl) ?_)) | ((with_reducible show wpAny _ _ (eval (Expr.ListComp _ [⟨Expr.Name _ _, _, [_], _⟩] _ _) _) _ _ _); k_dflt (refine LCt.ListComp_T (F₀ := by k_asm) (by with_unfolding_all rfl) (by decide) (by rfl) (by decide) (by rfl) ?_)) | ((with_reducible show wpAny _ _ (eval (Expr.ListComp _ [⟨Expr.Tuple _ _ _, _, [], _⟩] _ _) _) _ _ _); k_dflt (refine LCp.ListComp_P (F₀ := by k_asm) (by with_unfolding_all rfl) (by decide) (by rfl) (by decide) (by rfl) (by rfl) (by decide) ?_)))) | (k_unfold; (try dsimp only)) | (k_end; kc_close) | walk1 | (dsimp only; first | ((with_reducible show LCg.CompSrc _ _ _ _ _ _ _ _ _ _ _ _ _ _ ); refine Hold.out ?_) | ((with_reducible show wpAny _ _ (eval (Expr.ListComp _ _ _ _) _) _ _ _); (k_here; first | ((with_reducible show wpAny _ _ (eval (Expr.ListComp _ [⟨Expr.Name _ _, _, [], _⟩] _ _) _) _ _ _); k_dflt (refine LCg.ListComp_U (F₀ := by k_asm) (by with_unfolding_all rfl) (by decide) (by rfl) (by decide) (by rfl) ?_)) | ((with_reducible show wpAny _ _ (eval (Expr.ListComp _ [⟨Expr.Name _ _, _, [_], _⟩] _ _) _) _ _ _); k_dflt (refine LCt.ListComp_T (F₀ := by k_asm) (by with_unfolding_all rfl) (by decide) (by rfl) (by decide) (by rfl) ?_)) | ((with_reducible show wpAny _ _ (eval (Expr.ListComp _ [⟨Expr.Tuple _ _ _, _, [], _⟩] _ _) _) _ _ _); k_dflt (refine LCp.ListComp_P (F₀ := by k_asm) (by with_unfolding_all rfl) (by decide) (by rfl) (by decide) (by rfl) (by rfl) (by decide) ?_)))) | walk1) | (leave1; (try dsimp only)))
  refine Hold.mk (src_U (fun rem ys n => n = (D, o) :: news ∧ ∃ rl dl, WL news rem rl ∧ IntsAre ys dl ∧ dl ++ rl = [wt 0, wt 1, wt 2, wt 3, wt 4]) rfl F1 N1 ml' (by rw [sizeLine_eq]; exact Nat.le_of_ble_eq_true rfl) ⟨rfl, _, [], .cons j0 (.cons j1 (.cons j2 (.cons j3 (.cons j4 .nil)))), .nil, rfl⟩ ?_ ?_)
  · rintro s' ⟨gg, rfl⟩ v r ys n I oI C oC D' m₂ h tk E' ⟨rfl, rl, dl, hr, hi, e⟩ hm hC hx F3 N3 off ne
    clear F1 N1
    cases hr with | @cons tj dj wj bj u1 u2 u3 _ rl hj hr =>
    have hj' : (tj, tupO [.int dj u1, .int wj u2, .int bj u3]) ∈ (I, oI) :: (C, oC) :: (D', LCg.lst ys) :: (D, o) :: news := .tail _ (.tail _ (.tail _ (.tail _ hj)))
    k_steps
    exact CTo.mk F3 N3 off hm ⟨rfl, _, _, hr, ints_snoc hi, by simp [← e]⟩
  · rintro gg ys n ⟨rfl, rl, dl, hr, hi, e⟩ hm
    cases hr
    rw [List.append_nil] at e
    subst e
    k_steps
    rename Fr _ _ _ _ => F4
    rename News _ _ _ _ => N4
    rename _ ∧ _ => l2
    exact ret _ _ _ _ _ _ _ _ _ _ _ F4 (News.drop2 N4) lD l2.2.1 loD dD cv
end Mine

end
section -- W22
theorem Mine.off_W22 : True := by w_top off; trivial
open PySem PySem.W PyProof.Rows
set_option maxRecDepth 100000
namespace Mine
variable {w : World} {p : Program} {loose : List Str} {mean : ExcName → Option Value} {mg mb : Str → Option Value} {dp un : Nat} {gd : Option (List Code)} {cn : Str} {cs : Scope} {a : Addr} {ccd : Value} {cl : List (Str × Addr)} {outer : List Env} {A₀ : Around} {base h₀ : Heap} {L : Addr} {m : Str → Option Value} {news : List (Addr × Obj)} {s : Shared} {Q E : Value → Shared → Prop}
noncomputable def LeastP (w : World) (p : Program) (loose : List Str) (mean : ExcName → Option Value) (mg mb : Str → Option Value) (JL : Addr) (d wt : Nat → Int) (b : Nat → Nat) (n : Nat) : Prop :=
  ∀ {dp un : Nat} {gd : Option (List Code)} {cn : Str} {cs : Scope} {a : Addr} {ccd : Value} {cl : List (Str × Addr)} {outer : List Env} {A₀ : Around} {base h₀ : Heap} {L : Addr} {m : Str → Option Value} {news : List (Addr × Obj)} {s : Shared} {Q E : Value → Shared → Prop}
  (_B : Below A₀ base outer h₀) (_F : Fr h₀ L s.heap m) (_X : (hd.heap_1 w.params).In h₀) (_N : News h₀ L s.heap news) (_T : Top p loose mean mg mb h₀) (_hk : cs.kind = .function) (_hd : dp + 2 * n + 5 < recursionLimit) (_hu : un + 10 * n + 100 < cLine)
  (_JA : JobsAt news JL d wt b) {dl : Addr} {dv : List Value} {ep : Nat} (done : List Nat) {c : Int} {tc : Tok} (_md : (dl, lstO dv ep) ∈ news) (_iv : IntsAre dv (done.map (fun k : Nat => (k : Int)))) (_hn : done.length + n = 5) (_nd : done.Nodup) (_n5 : ∀ k ∈ done, k < 5) (_c0 : 0 ≤ c) (_c1 : c ≤ 7 * (done.length : Int))
  (_ret : ∀ t h' tk' dr, Fr h₀ L h' m → News h₀ L h' news → Q (.int (leastF d wt b (n + 1) done c) t) {s with heap := h', toks := tk', drawn := dr}),
  wpAny (model PySem.Challenge.rw_wy0045_01.row.prog w) (ktrTop dp un gd cn cs L a ccd cl outer) (call (.ref 297) [.ref JL, .ref dl, .int c tc]) Q E s
set_option maxHeartbeats 8000000 in
theorem least_step {w : World} {p : Program} {loose : List Str} {mean : ExcName → Option Value} {mg mb : Str → Option Value} {JL : Addr} {d wt : Nat → Int} {b : Nat → Nat} (bd : ∀ k < 5, 1 ≤ d k ∧ d k ≤ 7) (bw : ∀ k < 5, 0 ≤ wt k ∧ wt k ≤ 19) (bb : ∀ k < 5, b k < 5) (n : Nat)
  (ih : ∀ n', n = n' + 1 → LeastP w p loose mean mg mb JL d wt b n') : LeastP w p loose mean mg mb JL d wt b n := by
    intro dp un gd cn cs a ccd cl outer A₀ base h₀ L m news s Q E B F X N T hk hd hu JA dl dv ep done c tc md iv hn nd n5 c0 c1 ret
    refine wpAny_call ?_
    k_dflt (refine' code_def ?k1 ?k2 ?k3 ?k4 ?k5 ?kA ?kF ?kK ?k6 ?k7 ?k8 ?k9 ?kB ?_ ?c2 ?c3 ?c4 ?c5; (case kA => exact rfl); (case kF => exact rfl); (case kK => first | assumption | exact rfl); (case k1 => k_asm); (case k2 => k_asm); (case k3 => k_asm); (case k4 => k_asm); (case k5 => k_asm); (case k6 => k_is); (case k7 => k_is); (case k8 => ktr_room); (case k9 => first | exact BindsTo.of_eq rfl | exact binds_K (by k_in) rfl (by k_is) rfl rfl rfl); (case c5 => decide); (case kB => exact locs rfl); (case c2 => exact rfl); (case c3 => exact rfl); (case c4 => exact rfl); k_whole; intro g' L' h1' FG' F' N' B' X' T'; (try dsimp only); (try k_fold))
    refine exec_join (fun s' => ∀ PP : Prop, (∀ h' tk m' C, (s' = { s with heap := h', toks := tk }) → (Fr g' L' h' m') → (News g' L' h' ((C, lstO [] 0) :: news)) → (∀ p ∈ news, p.1 < C) → (m' (Str.ofString "costs") = some (.ref C)) → (m' (Str.ofString "jobs") = some (.ref JL)) → (m' (Str.ofString "done") = some (.ref dl)) → (m' (Str.ofString "clock") = some (.int c tc)) → PP) → PP) ?_ ?_
    · refine opq ?_
      intro QQ EE hQQ
      k_steps
      rename Fr _ _ _ _ => F3
      rename News _ _ _ _ => N3
      refine hQQ _ _ ?_
      exact Hold.mk ⟨rfl, fun PP kk => kk _ _ _ _ rfl F3 N3 (by assumption) rfl rfl rfl rfl⟩
    clear F' N'
    intro s' hPP
    refine hPP _ ?_
    clear hPP
    rintro h' tk m' C rfl F1 N1 lC q1 q2 q3 q4
    have offC : ∀ p ∈ news, p.1 ≠ C := fun p hp => Nat.ne_of_lt (lC p hp)
    refine exec_join (fun s' => ∀ PP : Prop, (∀ h' tk dr m' cv ep, (s' = { s with heap := h', toks := tk, drawn := dr }) → (Fr g' L' h' m') → (News g' L' h' ((C, lstO cv ep) :: news)) → (IntsAre cv (((List.range 5).filter (okNext b done)).map fun k => wt k * (c + d k) + leastF d wt b n (done ++ [k]) (c + d k))) → (m' (Str.ofString "costs") = some (.ref C)) → PP) → PP) ?_ ?_
    · refine opqQ ?_
      intro QQ hQQ
      refine For_D ?_
      k_steps
      rename IsRange _ _ _ _ _ _ _ _ => hR
      rename Fr _ _ _ _ => F3
      rename News _ _ _ _ => N3
      refine range_D (n := 5) (fun i m₁ n₁ => ∃ cv ep, n₁ = ((C, lstO cv ep) :: news) ∧ IntsAre cv (((List.range i).filter (okNext b done)).map fun k => wt k * (c + d k) + leastF d wt b n (done ++ [k]) (c + d k)) ∧ cv.length ≤ i ∧ m₁ (Str.ofString "costs") = some (.ref C) ∧
        m₁ (Str.ofString "jobs") = some (.ref JL) ∧ m₁ (Str.ofString "done") = some (.ref dl) ∧ m₁ (Str.ofString "clock") = some (.int c tc)) rfl hR (by decide) (by decide) F3 N3 ⟨_, _, rfl, .nil, Nat.le_refl _, q1, q2, q3, q4⟩ ?_ ?_
      · clear F3 N3 hR q1 q2 q3 q4
        rintro I i u m₁ n₁ oI h tk dr hi ⟨cv, ep', rfl, hv, hcl, q1, q2, q3, q4⟩ hI F1 N1
        obtain ⟨vs, epj, tj, ml, hvj, hvl, u1, u2, u3, mt⟩ := JA.get hi
        have ml' : (JL, lstO vs epj) ∈ (I, oI) :: (C, lstO cv ep') :: news := .tail _ (.tail _ ml)
        have mt' : (tj, tupO [.int (d i) u1, .int (wt i) u2, .int (b i : Int) u3]) ∈ (I, oI) :: (C, lstO cv ep') :: news := .tail _ (.tail _ mt)
        have md' : (dl, lstO dv ep) ∈ (I, oI) :: (C, lstO cv ep') :: news := .tail _ (.tail _ md)
        have hCI : I ≠ C := fun e => hI (C, _) (.head _) e.symm
        obtain ⟨d1, d2⟩ := bd i hi
        obtain ⟨w1, w2⟩ := bw i hi
        have offI : ∀ (x : List Value) (e : Nat), ∀ p ∈ (C, lstO x e) :: news, p.1 ≠ I := fun x e p hp => by
          rcases List.mem_cons.mp hp with rfl | hp
          · exact hCI.symm
          · exact hI p (.tail _ hp)
        have hcs : cv.length + 1 ≤ sizeLine := by rw [sizeLine_eq]; lia  
        have m0 : 0 ≤ wt i * (c + d i) := Int.mul_nonneg w1 (by lia  )
        repeat' (first | ((with_reducible show wpAny _ _ (subscriptTail _ _ _ _) _ _ _); (k_here; k_dflt (refine sub_list (by with_reducible assumption) (by k_mem) (by assumption) (by omega) ?_))) | ((with_reducible show wpAny _ _ (compareOp CmpOp.In (Value.int _ _) (Value.ref _)) _ _ _); (k_here; k_dflt (refine in_list_ints (News.isList (by k_asm) (by assumption)) (by assumption) ?_))) | ((with_reducible show wpAny _ _ (compareOp CmpOp.NotIn (Value.int _ _) (Value.ref _)) _ _ _); (k_here; k_dflt (refine notin_list_ints (News.isList (by k_asm) (by assumption)) (by assumption) ?_))) | ((with_reducible show wpAny _ _ (PySem.call (Value.ref _) _ _) _ _ _); (k_here; (with_reducible show wpAny _ _ (call (Value.ref 297) _ _) _ _ _); refine Hold.out ?_)) | (k_unfold; (try dsimp only)) | (k_end; kc_close) | walk1 | (dsimp only; first | ((with_reducible show wpAny _ _ (subscriptTail _ _ _ _) _ _ _); (k_here; k_dflt (refine sub_list (by with_reducible assumption) (by k_mem) (by assumption) (by omega) ?_))) | ((with_reducible show wpAny _ _ (compareOp CmpOp.In (Value.int _ _) (Value.ref _)) _ _ _); (k_here; k_dflt (refine in_list_ints (News.isList (by k_asm) (by assumption)) (by assumption) ?_))) | ((with_reducible show wpAny _ _ (compareOp CmpOp.NotIn (Value.int _ _) (Value.ref _)) _ _ _); (k_here; k_dflt (refine notin_list_ints (News.isList (by k_asm) (by assumption)) (by assumption) ?_))) | ((with_reducible show wpAny _ _ (PySem.call (Value.ref _) _ _) _ _ _); (k_here; (with_reducible show wpAny _ _ (call (Value.ref 297) _ _) _ _ _); refine Hold.out ?_)) | walk1) | (leave1; (try dsimp only)))
        · rename List.any _ _ = true => a1
          rename Fr _ _ _ _ => F3
          rename News _ _ _ _ => N3
          refine ⟨_, _, _, _, _, rfl, F3, N3, hI, cv, ep', rfl, ?_, by lia  , q1, q2, q3, q4⟩
          rw [okFilter, okNext_in a1, if_neg Bool.false_ne_true, List.append_nil]
          exact hv
        · rename Fr _ _ _ _ => F3
          rename News _ _ _ _ => N3
          rename IntsAre _ (_ ++ [_]) => hi'
          rename List.any _ (fun x => x == (i : Int)) = false => a1
          have hnot : i ∉ done := fun q => by rw [anyCast] at a1; rw [List.contains_iff_mem.mpr q] at a1; cases a1
          obtain ⟨n, rfl⟩ : ∃ n', n = n' + 1 := by
            cases n with
            | zero => exact absurd (full5 nd n5 (by lia  ) hi) hnot
            | succ n => exact ⟨n, rfl⟩
          refine Hold.mk (ih n rfl B' F3 X' N3 T' rfl (by (try dsimp only [ktrTop]); lia  ) (by (try dsimp only [ktrTop]); lia  ) (JA.mono fun p hp => .tail _ (.tail _ (.tail _ (.tail _ hp)))) (done ++ [i]) (.head _) (by simpa using hi') (by simp; lia  ) (List.nodup_append.mpr ⟨nd, by simp, by intro x hx y hy; rw [List.mem_singleton.mp hy]; exact fun e => hnot (e ▸ hx)⟩) (by intro x hx; rcases List.mem_append.mp hx with hx | hx; exact n5 x hx; rw [List.mem_singleton.mp hx]; exact hi) (by lia  ) (by simp; lia  ) ?_)
          intro tR hR kR dR FR NR
          clear N3 F3
          k_steps
          rename Fr _ _ _ _ => F4
          rename News _ _ _ _ => N4
          simp only [List.push_toArray] at N4
          refine ⟨_, _, _, _, _, rfl, F4, fun p hp => N4 p (.tail _ (.tail _ hp)), offI _ _, _, _, rfl, ?_, by simp; lia  , q1, q2, q3, q4⟩
          rw [okFilter, okNext_zero (by assumption) (by assumption), if_pos rfl, List.map_append]
          exact ints_snoc hv
        · rename Fr _ _ _ _ => F3
          rename News _ _ _ _ => N3
          rename IntsAre _ (_ ++ [_]) => hi'
          rename List.any _ (fun x => x == (i : Int)) = false => a1
          have hnot : i ∉ done := fun q => by rw [anyCast] at a1; rw [List.contains_iff_mem.mpr q] at a1; cases a1
          obtain ⟨n, rfl⟩ : ∃ n', n = n' + 1 := by
            cases n with
            | zero => exact absurd (full5 nd n5 (by lia  ) hi) hnot
            | succ n => exact ⟨n, rfl⟩
          refine Hold.mk (ih n rfl B' F3 X' N3 T' rfl (by (try dsimp only [ktrTop]); lia  ) (by (try dsimp only [ktrTop]); lia  ) (JA.mono fun p hp => .tail _ (.tail _ (.tail _ (.tail _ hp)))) (done ++ [i]) (.head _) (by simpa using hi') (by simp; lia  ) (List.nodup_append.mpr ⟨nd, by simp, by intro x hx y hy; rw [List.mem_singleton.mp hy]; exact fun e => hnot (e ▸ hx)⟩) (by intro x hx; rcases List.mem_append.mp hx with hx | hx; exact n5 x hx; rw [List.mem_singleton.mp hx]; exact hi) (by lia  ) (by simp; lia  ) ?_)
          intro tR hR kR dR FR NR
          clear N3 F3
          k_steps
          rename Fr _ _ _ _ => F4
          rename News _ _ _ _ => N4
          simp only [List.push_toArray] at N4
          refine ⟨_, _, _, _, _, rfl, F4, fun p hp => N4 p (.tail _ (.tail _ hp)), offI _ _, _, _, rfl, ?_, by simp; lia  , q1, q2, q3, q4⟩
          rw [okFilter, okNext_yes (by assumption) (by assumption), if_pos rfl, List.map_append]
          exact ints_snoc hv
        · rename Fr _ _ _ _ => F3
          rename News _ _ _ _ => N3
          refine ⟨_, _, _, _, _, rfl, F3, N3, hI, cv, ep', rfl, ?_, by lia  , q1, q2, q3, q4⟩
          rw [okFilter, okNext_no (by assumption) (by assumption), if_neg Bool.false_ne_true, List.append_nil]
          exact hv
      · rintro m₁ n₁ h tk dr ⟨cv, ep', rfl, hv, hcl, q1, _⟩ F1 N1
        k_steps
        refine hQQ _ _ ?_
        exact Hold.mk ⟨rfl, fun PP kk => kk _ _ _ _ _ _ rfl F1 N1 hv q1⟩
    clear F1 N1 q1 q2 q3 q4
    intro s' hPP
    refine hPP _ ?_
    clear hPP
    rintro h' tk dr m' cv ep' rfl F1 N1 hv q1
    have mC : (C, lstO cv ep') ∈ (C, lstO cv ep') :: news := .head _
    generalize hcosts : (((List.range 5).filter (okNext b done)).map fun k => wt k * (c + d k) + leastF d wt b n (done ++ [k]) (c + d k)) = ns at hv
    have hres : leastF d wt b (n + 1) done c = minL ns := by rw [← hcosts]; rfl
    repeat' (first | ((with_reducible show wpAny _ _ (compareOp CmpOp.NotEq (Value.ref _) (Value.ref _)) _ _ _); (k_here; refine Hold.out ?_)) | (k_unfold; (try dsimp only)) | (k_end; kc_close) | walk1 | (dsimp only; first | ((with_reducible show wpAny _ _ (compareOp CmpOp.NotEq (Value.ref _) (Value.ref _)) _ _ _); (k_here; refine Hold.out ?_)) | walk1) | (leave1; (try dsimp only)))
    rename Fr _ _ _ _ => F3
    rename News _ _ _ _ => N3
    refine Hold.mk (ne_intsK (News.isList N3 (.tail _ (.head _))) hv (us := []) (News.isList N3 (.head _)) .nil (by show un + 3 + 64 < cLine; lia  ) ?_)
    repeat' (first | ((with_reducible show wpAny _ _ (PySem.call (Value.builtin "min") _ _) _ _ _); (k_here; refine Hold.out ?_)) | (k_unfold; (try dsimp only)) | (k_end; kc_close) | walk1 | (dsimp only; first | ((with_reducible show wpAny _ _ (PySem.call (Value.builtin "min") _ _) _ _ _); (k_here; refine Hold.out ?_)) | walk1) | (leave1; (try dsimp only)))
    · rename decide (ns = []) = true => a1
      have e := of_decide_eq_true a1
      rename Fr _ _ _ _ => F4
      rename News _ _ _ _ => N4
      rw [hres, e] at ret
      exact ret _ _ _ _ F4 (fun p hp => N4 p (.tail _ (.tail _ hp)))
    · rename decide (ns = []) = false => a1
      have e := of_decide_eq_false a1
      rename Fr _ _ _ _ => F4
      rename News _ _ _ _ => N4
      refine Hold.mk (kso_min F4 N4 (News.isList N4 (.tail _ (.head _))) hv (List.length_pos_iff.mpr e) rfl ?_)
      intro h5 M t5 k5 F5 N5 hM hall
      clear F4 N4
      k_steps
      rename Fr _ _ _ _ => F6
      rename News _ _ _ _ => N6
      rw [hres, minL_of hM hall] at ret
      exact ret _ _ _ _ F6 (fun p hp => N6 p (.tail _ (.tail _ hp)))
theorem least_c {w : World} {p : Program} {loose : List Str} {mean : ExcName → Option Value} {mg mb : Str → Option Value} {JL : Addr} {d wt : Nat → Int} {b : Nat → Nat} (bd : ∀ k < 5, 1 ≤ d k ∧ d k ≤ 7) (bw : ∀ k < 5, 0 ≤ wt k ∧ wt k ≤ 19) (bb : ∀ k < 5, b k < 5) : ∀ n, LeastP w p loose mean mg mb JL d wt b n
  | 0 => least_step bd bw bb 0 (fun _ e => nomatch e)
  | n + 1 => least_step bd bw bb (n + 1) (fun n' e => by cases e; exact least_c bd bw bb n)
end Mine

end
section -- P15
open PySem PySem.W PyProof.Rows
set_option maxRecDepth 100000
namespace Mine
section
variable {prog : Program} {w : World} {A : Around} {E : Value → Shared → Prop} {s : Shared} {h₀ : Heap} {L : Addr} {m : Str → Option Value} {env : Env} {elt iter : Expr} {scope : Scope} {cl : List (Str × Addr)} {pos spos : Pos}
/-- a tuple of the ledger as the source of a comprehension -/
noncomputable def SrcTup (prog : Program) (w : World) (A : Around) (h₀ : Heap) (L : Addr) (m : Str → Option Value) (env : Env) (elt : Expr) (x : Str) (scope : Scope) (cl : List (Str × Addr)) (Fin : Shared → List Value → List (Addr × Obj) → Prop) (xv : Value) (s₁ : Shared) : Prop :=
  ∃ ax vs news, xv = .ref ax ∧ A.handled = none ∧ Fr h₀ L s₁.heap m ∧ News h₀ L s₁.heap news ∧ (ax, tupO vs) ∈ news ∧ vs.length ≤ 1000 ∧
    ∀ s₂ : Shared, (∃ h, s₂ = { s₁ with heap := h }) → LCg.CompRest prog w A h₀ L m env elt x scope cl s₂ (fun n => (ax, tupO vs) ∈ n) (fun i v => vs.toArray[i]? = some v) (Fin s₂) vs.length 0 [] news
theorem tup_st {ax I : Addr} {vs : List Value} : ∀ i (h h' : Heap) (o : Obj) (nw : List (Addr × Obj)), (h.IsTupleIter I ax i ∧ h.IsTuple ax vs.toArray) → h.get? I = some o → h'.get? I = some o → (∀ b o, h₀.get? b = some o → h'.get? b = some o) → News h₀ L h' nw → (ax, tupO vs) ∈ nw → (h'.IsTupleIter I ax i ∧ h'.IsTuple ax vs.toArray) :=
  fun i h h' o nw st e e' k N S => ⟨by obtain ⟨o', q, r⟩ := st.1; rw [e] at q; cases q; exact ⟨o, e', r⟩, ⟨_, (N _ S).1, rfl, _, rfl⟩⟩
theorem Assign_ListComp_Tup {x y : Str} {px py : Pos} {Q : Flow → Shared → Prop} (_F₀ : Fr h₀ L s.heap m) (hLe : env.locals = L)
    (hsw : swapsWith (.ListComp elt [⟨.Name x px, iter, [], 0⟩] scope pos) (some (.Name y py)) spos.line env = pure true)
    (hclos : closureFor scope env = pure cl) (hcell : ∀ z ∈ scope.names, z.2 ≠ .cell) (hkind : scope.kind = .function)
    (hnames : ∀ z ∈ scope.names, z.2 = .local → scope.names.lookup z.1 = some .local) (hx : scope.names.lookup x = some .local)
    (hy : env.kindOf y = some .local) (hp : (env.scope.kind == .class || (env.scope.kind == .module && env.locals != env.globals)) = false)
    (h : wpAny (model prog w) A (eval iter env) (SrcTup prog w A h₀ L m env elt x scope cl (fun s₂ => LCg.FinA h₀ L m s₂ y Q)) E s)
    (hs : ∀ x, foldedSetIterable iter env x = pure x := by intro _; rfl) :
    wpAny (model prog w) A (exec (.Assign [.Name y py] (.ListComp elt [⟨.Name x px, iter, [], 0⟩] scope pos) spos) env) Q E s := by
  subst hLe
  rw [exec_Assign_Name_used _ _ _ _ hsw]
  refine wpAny_bind (wpAny_standAt (wpAny_bind ?_))
  show wpAny _ A (do let _ ← comprehension (.ListComp elt [⟨.Name x px, iter, [], 0⟩] scope pos) scope env _ (newList []) false (eval iter env) (some (assign (.Name y py) env))) _ _ s
  refine wpAny_bind (wpAny_mono (wpAny_comprehension_free (use := some (assign (.Name y py) env)) (Q := fun _ s' => Q .next s') rfl hs hclos hkind hnames
    (wpAny_mono h (fun xv s₁ h₁ => ?_) fun _ _ e => e)) (fun _ s' hq => wpAny_pure (wpAny_pure hq)) fun _ _ e => e)
  obtain ⟨ax, vs, news, rfl, hh, F, N, S, hsz, R⟩ := h₁
  have hl : s₁.heap.IsTuple ax vs.toArray := ⟨_, (N _ S).1, rfl, _, rfl⟩
  have hlt : ax < s₁.heap.objs.size := Heap.lt_size (N _ S).1
  refine wpAny_pyIter_tuple hl ?_
  have up : ∀ b o, s₁.heap.get? b = some o → (s₁.heap.push { cls := .type "tuple_iterator", data := .fields #[.ref ax, .int 0 0] }).get? b = some o := fun b o e => Heap.get?_push_of_some _ e
  have hW : Walks prog w A s₁.heap.objs.size [s₁.heap.objs.size, ax] [s₁.heap.objs.size] vs.length (fun i v => vs.toArray[i]? = some v) (fun i h => h.IsTupleIter s₁.heap.objs.size ax i ∧ h.IsTuple ax vs.toArray) := by
    have := Walks.tuple (prog := prog) (w := w) hh s₁.heap.objs.size ax (Nat.ne_of_lt hlt) vs.toArray
    simpa using this
  refine LCg.block_U hW (by rw [sizeLine_eq]; lia  ) (fun i h st => by obtain ⟨o, e, _⟩ := st.1; exact ⟨o, e⟩) tup_st hcell hkind hx ⟨⟨_, Heap.get?_push_size _ rfl, rfl, rfl⟩, ⟨_, up _ _ (N _ S).1, rfl, _, rfl⟩⟩ (fun b hb => ?_)
    (F.keeps up) (N.grown up) (Nat.ne_of_lt F.ns.lt) (next_is_new F) (fun p hp => Nat.ne_of_lt (Heap.lt_size (N p hp).1)) S (R _ ⟨_, rfl⟩) ?_
  · show b < (s₁.heap.push _).objs.size
    rw [Heap.size_push]
    rcases List.mem_cons.mp hb with rfl | hb
    · exact Nat.lt_succ_self _
    · rw [List.mem_singleton.mp hb]; exact Nat.lt_succ_of_lt hlt
  · intro D C h' tk m' ys news' F' N' o1 hn hC₀ hD₀ hCL hDL hCD offC fin
    show wpAny _ A (assign (.Name y py) env (.ref D)) _ _ _
    refine wpAny_assign_Name (wpAny_storeName_local hy F'.ns (fun h₂ hn₂ hs₂ => ?_) hp)
    have hL₀ : h₀.get? env.locals = none := Heap.get?_none_of_le F'.above
    have F₂ : Fr h₀ env.locals h₂ (fun z => if z = y then some (.ref D) else m z) := ⟨hn₂, fun b o e => hs₂.extBut b o (fun q => by rw [q, hL₀] at e; cases e) (F'.keep b o e), F'.above⟩
    refine ⟨m', hn.sameBut hs₂ hCL, fun h'' hs'' => fin D h'' _ (F₂.change hs'' hCL hC₀) (fun p hp => ?_) o1⟩
    have z : h₂.get? p.1 = some p.2 := hs₂.extBut _ _ (N' p hp).2.1 (N' p hp).1
    refine ⟨hs''.extBut _ _ ?_ z, (N' p hp).2⟩
    rcases List.mem_cons.mp hp with rfl | hp
    · exact Ne.symm hCD
    · exact offC p hp
end
end Mine
namespace Mine
section
variable {prog : Program} {w : World} {A : Around} {E : Value → Shared → Prop} {s : Shared} {h₀ : Heap} {L : Addr} {m : Str → Option Value} {news : List (Addr × Obj)}
/-- the first two of a tuple of three -/
theorem sub_tup2 {value slice : Expr} {t : Addr} {x y z : Value} {u : Tok} {Q : Value → Shared → Prop} (F : Fr h₀ L s.heap m) (N : News h₀ L s.heap news) (hm : (t, tupO [x, y, z]) ∈ news)
    (h : ∀ D h', Fr h₀ L h' m → News h₀ L h' ((D, tupO [x, y]) :: news) → (∀ p ∈ news, p.1 < D) → Q (.ref D) { s with heap := h' })
    (hs : subscripted slice false (.ref t) (.ref s.heap.objs.size) = operate [.ref s.heap.objs.size, .ref t] (getItem (.ref t) (.ref s.heap.objs.size)) := by with_unfolding_all rfl)
    (hg : ∀ r, letTemporaryGo value (.ref t) r = pure () := by intro _; with_unfolding_all rfl) :
    wpAny (model prog w) A (subscriptTail value slice (.ref t) (.ref s.heap.objs.size)) Q E { s with heap := s.heap.push { cls := .type "slice", data := .fields #[.none, .int 2 u, .none] } } := by
  have ht' : IsTup (s.heap.push { cls := .type "slice", data := .fields #[.none, .int 2 u, .none] }) t #[x, y, z] := ⟨_, Heap.get?_push_of_some _ (N _ hm).1, rfl, _, rfl⟩
  have hsl : (s.heap.push { cls := .type "slice", data := .fields #[.none, .int 2 u, .none] }).IsSliceOf s.heap.objs.size .none (.int 2 u) .none := Heap.IsSliceOf.new ..
  refine subscriptTail_ops (s := { s with heap := s.heap.push { cls := .type "slice", data := .fields #[.none, .int 2 u, .none] } }) ht'.typeIs slot_tuple_getitem.lookup ?_ hs hg
  have N1 := News.push (F.push { cls := .type "slice", data := .fields #[.none, .int 2 u, .none] }) (N.grown fun _ _ e => Heap.get?_push_of_some _ e) (tupO [x, y])
  have hq : Q (.ref (s.heap.push { cls := .type "slice", data := .fields #[.none, .int 2 u, .none] }).objs.size) { s with heap := (s.heap.push { cls := .type "slice", data := .fields #[.none, .int 2 u, .none] }).push (tupO [x, y]) } :=
    h _ _ ((F.push _).push _) N1 (fun p hp => by rw [Heap.size_push]; exact Nat.lt_succ_of_lt (Heap.lt_size (N p hp).1))
  obtain ⟨os, hos, hcs, hds⟩ := id hsl
  generalize hH : s.heap.push { cls := .type "slice", data := .fields #[.none, .int 2 u, .none] } = H at *
  have hTs : ({ s with heap := H } : Shared).TypeIs (.ref s.heap.objs.size) "slice" := ⟨os, hos, hcs⟩
  unfold getItem
  try with_reducible refine wpAny_holding ?_
  first | refine wpAny_bind (wpAny_pure ?_) | skip
  refine wpAny_bind (wpAny_sequenceKey ht'.typeIs (by decide) ?_)
  refine wpAny_bind (wpAny_callSpecial?_slot (name := Str.ofString "__getitem__") ht'.typeIs slot_tuple_getitem
    (wpAny_call_entry slot_tuple_getitem ht'.typeIs entry_tuple_getitem ?_ (args_tuple_getitem _ _)))
  show wpAny _ _ (Builtin.Tuple.tupleItemsOf (.ref t) >>= _) _ _ _
  refine wpAny_bind (tupleItemsOf_ ht' ?_)
  refine wpAny_bind (wpAny_typeOf hTs ?_)
  rw [if_pos (by decide)]
  refine wpAny_bind ?_
  unfold Builtin.Slice.sliceApplied Builtin.Slice.sliceFields
  refine wpAny_bind (wpAny_bind (wpAny_field hos hds (x := .none) rfl (wpAny_bind (wpAny_field hos hds (x := .int 2 u) rfl (wpAny_bind (wpAny_field hos hds (x := .none) rfl (wpAny_pure ?_)))))))
  refine wpAny_bind (slicePart_none ?_)
  show wpAny _ _ (if ((1 : Int) == 0) = true then _ else _) _ _ _
  rw [if_neg (by decide)]
  refine wpAny_bind (slicePart_none (wpAny_bind (slicePart_int (wpAny_bind (wpAny_pure ?_)))))
  refine wpAny_pure ?_
  show wpAny _ _ (Builtin.Tuple.tupleExact #[x, y] >>= fun v => ret v) _ _ _
  have hdrop : sizeOk (.seq #[x, y]) := by show 2 ≤ sizeLine; rw [sizeLine_eq]; exact Nat.le_of_ble_eq_true rfl
  first
    | exact wpAny_bind (m := Builtin.Tuple.tupleExact _) (wpAny_newObj_type (wpAny_pure ⟨_, rfl, wpAny_pure hq⟩) hdrop)
    | exact wpAny_bind (m := Builtin.Tuple.tupleExact _) (wpAny_newObj_type (wpAny_bind (wpAny_pure (wpAny_pure ⟨_, rfl, wpAny_pure hq⟩))) hdrop)
end
end Mine
namespace Mine
section
variable {prog : Program} {w : World} {A : Around} {E : Value → Shared → Prop} {s : Shared} {h₀ : Heap} {L : Addr} {m : Str → Option Value} {env : Env} {elt : Expr} {scope : Scope} {cl : List (Str × Addr)}
theorem cl_rest_Tup {x : Str} {ax : Addr} {vs : List Value} (J : List Value → List Value → List (Addr × Obj) → Prop) {Fin : List Value → List (Addr × Obj) → Prop}
    (turn : ∀ v r ys n I oI C oC D m₂ h tk (E' : Value → Shared → Prop), J (v :: r) ys n → (ax, tupO vs) ∈ n → LCg.NsObj oC m₂ → m₂ x = some v → Fr h₀ L h m → News h₀ L h ((I, oI) :: (C, oC) :: (D, LCg.lst ys) :: n) → LCg.Off3 I C D n → ((@Ne Nat I C) ∧ (@Ne Nat I D) ∧ (@Ne Nat C D)) →
      wpAny (model prog w) A (eval elt (compEnvC scope cl C env)) (CTo h₀ L m { s with heap := h, toks := tk } I oI C oC D (LCg.lst ys) (ax, tupO vs) (fun y n' => J r (ys ++ [y]) n')) E' { s with heap := h, toks := tk })
    (done : ∀ ys n, J [] ys n → (ax, tupO vs) ∈ n → Fin ys n) : ∀ (q i : Nat) (ys : List Value) (n : List (Addr × Obj)), i + q = vs.length → J (vs.drop i) ys n → (ax, tupO vs) ∈ n →
    LCg.CompRest prog w A h₀ L m env elt x scope cl s (fun n => (ax, tupO vs) ∈ n) (fun i v => vs.toArray[i]? = some v) Fin q i ys n := by
  intro q
  induction q with
  | zero =>
    intro i ys n e hJ hm
    rw [List.drop_eq_nil_of_le (by lia  )] at hJ
    exact LCg.CompRest.zero (done ys n hJ hm)
  | succ q ih =>
    intro i ys n e hJ hm
    refine LCg.CompRest.succ fun v I oI C oC D m₂ h tk E' hv hC hx F N off ne => ?_
    rw [drop_cons hv] at hJ
    refine wpAny_mono (turn v _ ys n I oI C oC D m₂ h tk E' hJ hm hC hx F N off ne) (fun y s' h' => ?_) fun _ _ e => e
    obtain ⟨h1, tk1, n', rfl, F', N', off', hK, hJ'⟩ := h'
    exact ⟨h1, tk1, n', rfl, F', N', off', hK, ih (i + 1) _ n' (by lia  ) hJ' hK⟩
theorem src_Tup {x : Str} {ax : Addr} {vs : List Value} {news : List (Addr × Obj)} {Fin : Shared → List Value → List (Addr × Obj) → Prop} (J : List Value → List Value → List (Addr × Obj) → Prop)
    (hh : A.handled = none) (F : Fr h₀ L s.heap m) (N : News h₀ L s.heap news) (hm : (ax, tupO vs) ∈ news) (hsz : vs.length ≤ 1000) (hJ : J vs [] news)
    (turn : ∀ s' : Shared, (∃ g, s' = { s with heap := g }) → ∀ v r ys n I oI C oC D m₂ h tk (E' : Value → Shared → Prop), J (v :: r) ys n → (ax, tupO vs) ∈ n → LCg.NsObj oC m₂ → m₂ x = some v → Fr h₀ L h m → News h₀ L h ((I, oI) :: (C, oC) :: (D, LCg.lst ys) :: n) → LCg.Off3 I C D n → ((@Ne Nat I C) ∧ (@Ne Nat I D) ∧ (@Ne Nat C D)) →
      wpAny (model prog w) A (eval elt (compEnvC scope cl C env)) (CTo h₀ L m { s' with heap := h, toks := tk } I oI C oC D (LCg.lst ys) (ax, tupO vs) (fun y n' => J r (ys ++ [y]) n')) E' { s' with heap := h, toks := tk })
    (done : ∀ g ys n, J [] ys n → (ax, tupO vs) ∈ n → Fin { s with heap := g } ys n) :
    SrcTup prog w A h₀ L m env elt x scope cl Fin (.ref ax) s :=
  ⟨ax, vs, news, rfl, hh, F, N, hm, hsz, fun _ ⟨g, e⟩ => e ▸ cl_rest_Tup J (turn _ ⟨g, rfl⟩) (done g) _ 0 [] news (by simp) hJ hm⟩
end
end Mine

end
section -- P16
open PySem PySem.W PyProof.Rows
set_option maxRecDepth 100000
namespace Mine
open PySem.Builtin.Str
/-- a numeral with an underscore between its figures, and blanks behind -/
noncomputable def numS (z j : Nat) : Str := Txt.join (Str.ofString "_") (signs (Str.ofString (toString (z : Int)))) ++ Txt.mul (Str.ofString " ") (j : Int)
example : numS 12 2 = Str.ofString "1_2  " := by decide +kernel
theorem numS_len : ∀ z < 20, ∀ j < 3, (numS z j).length < 1000 := by decide +kernel
theorem numS_pos : ∀ z < 20, ∀ j < 3, 0 < (numS z j).length := by decide +kernel
theorem numS_ok : ∀ z < 20, ∀ j < 3, (numS z j).cps.toList.all (fun c => decide (32 ≤ c) && decide (c ≤ 126)) = true := by decide +kernel
theorem numS_bs : ∀ z < 20, ∀ j < 3, (occurrences (numS z j) (Str.ofString "\\") 0 (numS z j).length ((numS z j).length + 1)).isEmpty = true := by decide +kernel
theorem numS_qu : ∀ z < 20, ∀ j < 3, (occurrences (numS z j) (Str.ofString "\"") 0 (numS z j).length ((numS z j).length + 1)).isEmpty = true := by decide +kernel
noncomputable def hdrT (z y j : Nat) : Str := Txt.join (Str.ofString "; ") [numS z j, hdrPart (numS y j)]
noncomputable def dig (z : Nat) : Str := Str.ofString (toString (z : Int))
theorem num_strip : ∀ z < 20, ∀ j < 3, Txt.replace (Txt.rstrip (numS z j)) (Str.ofString "_") (Str.ofString "") = dig z := by decide +kernel
theorem dig_val : ∀ z < 20, NumText.digitsVal (dig z).cps.toList = z := by decide +kernel
theorem dig_all : ∀ z < 20, (dig z).cps.toList.all (fun c => decide (48 ≤ c) && decide (c ≤ 57)) = true := by decide +kernel
end Mine

end
section -- P17
open PySem PySem.W PyProof.Rows
set_option maxRecDepth 100000
namespace Mine
open PySem.Builtin.Str
theorem strip_gen {core : List Nat} {n : Nat} (hA : ∀ c ∈ core, c < 128) (hne : core ≠ []) (hl : spS ⟨#[core.getLastD 0]⟩ = false) {x : Str} (hx : x.cps.toList = core ++ List.replicate n 32) : Txt.rstrip x = ⟨core.toArray⟩ := by
  have hlen : x.length = core.length + n := by
    have : x.cps.toList.length = core.length + n := by rw [hx]; simp
    rw [Array.length_toList] at this; exact this
  have hpos : 0 < core.length := List.length_pos_iff.mpr hne
  have hget : ∀ k, x.cps.getD k 0 = (core ++ List.replicate n 32).getD k 0 := fun k => by
    rw [← hx, List.getD_eq_getElem?_getD, Array.getD_eq_getD_getElem?, Array.getElem?_toList]
  obtain ⟨hi, h0, h1, h2, h3⟩ := rstrip_cut (x := x) (by
    rw [hx]; intro c hc
    rcases List.mem_append.mp hc with hc | hc
    · exact hA c hc
    · rw [List.eq_of_mem_replicate hc]; decide)
  have hge : core.length ≤ hi := by
    rcases Nat.lt_or_ge hi core.length with q | q
    · have z := h2 (core.length - 1) (by lia  ) (by lia  )
      rw [hget, List.getD_eq_getElem?_getD, List.getElem?_append_left (by lia  ), ← List.getD_eq_getElem?_getD] at z
      have e : core.getD (core.length - 1) 0 = core.getLastD 0 := by
        rw [List.getD_eq_getElem?_getD, List.getLastD_eq_getLast?, List.getLast?_eq_getElem?]
      rw [e, hl] at z
      cases z
    · exact q
  have hle : hi ≤ core.length := by
    rcases Nat.lt_or_ge core.length hi with q | q
    · rcases h3 with z | z
      · lia  
      · rw [hget, List.getD_eq_getElem?_getD, List.getElem?_append_right (by lia  ), ← List.getD_eq_getElem?_getD] at z
        have e : (List.replicate n 32).getD (hi - 1 - core.length) 0 = 32 := by
          rw [List.getD_eq_getElem?_getD, List.getElem?_replicate, if_pos (by lia  )]; rfl
        rw [e] at z
        exact absurd z (by decide)
    · exact q
  have e : hi = core.length := by lia  
  rw [h1, strSub_mk, e, hx]
  simp
theorem replace_gen {x : Str} {l : List Nat} (h : x.cps.toList.filter (· != 95) = l) : Txt.replace x (Str.ofString "_") (Str.ofString "") = ⟨l.toArray⟩ := by
  have h1 : Str.ofString "_" = ⟨#[95]⟩ := rfl
  have h2 : Str.ofString "" = ⟨#[]⟩ := rfl
  rw [h1, h2]
  have e := replace_strikes x 95
  rw [h] at e
  have : ∀ (a : Str) (m : List Nat), a.cps.toList = m → a = ⟨m.toArray⟩ := fun a m q => by subst q; simp
  exact this _ _ e
theorem foldl_list (a : Array Nat) : ∀ (k : Nat) (acc : Array Nat), ((List.replicate k a).foldl (· ++ ·) acc).toList = acc.toList ++ (List.replicate k a.toList).flatten
  | 0, acc => by simp
  | k + 1, acc => by
    rw [List.replicate_succ, List.foldl_cons, foldl_list a k]
    simp [List.replicate_succ]
theorem mul_1100 : (Txt.mul (Str.ofString "0_") 1100).cps.toList = (List.replicate 1100 [48, 95]).flatten := by
  unfold Txt.mul
  rw [if_neg (by decide), if_neg (by decide +kernel)]
  show ((List.replicate 1100 (Str.ofString "0_").cps).foldl (· ++ ·) #[]).toList = _
  have e : (Str.ofString "0_").cps.toList = [48, 95] := rfl
  rw [foldl_list, e]
  exact List.nil_append _
theorem mul_1200 : (Txt.mul (Str.ofString " ") 1200).cps.toList = List.replicate 1200 32 := mul_one_list 32 1200
/-- the long text of a's time -/
noncomputable def longS (y : Nat) : Str := Txt.mul (Str.ofString "0_") 1100 ++ numS y 0 ++ Txt.mul (Str.ofString " ") 1200
noncomputable def longD (y : Nat) : Str := ⟨(List.replicate 1100 48 ++ (dig y).cps.toList).toArray⟩
theorem numS_last : ∀ y < 20, spS ⟨#[(numS y 0).cps.toList.getLastD 0]⟩ = false := by decide +kernel
theorem numS_small : ∀ y < 20, (numS y 0).cps.toList.all (fun c => decide (c < 128)) = true := by decide +kernel
theorem numS_digs : ∀ y < 20, (numS y 0).cps.toList.filter (· != 95) = (dig y).cps.toList := by decide +kernel
theorem filter_rep (k : Nat) : ((List.replicate k [48, 95]).flatten).filter (· != 95) = List.replicate k 48 := by
  induction k with
  | zero => rfl
  | succ k ih => rw [List.replicate_succ, List.flatten_cons, List.filter_append, ih, List.replicate_succ]; rfl
theorem long_strip {y : Nat} (hy : y < 20) : Txt.rstrip (longS y) = ⟨((List.replicate 1100 [48, 95]).flatten ++ (numS y 0).cps.toList).toArray⟩ := by
  have hne : (numS y 0).cps.toList ≠ [] := fun e => by
    have := numS_pos y hy 0 (by decide)
    rw [show (numS y 0).length = (numS y 0).cps.toList.length from Array.length_toList.symm, e] at this
    cases this
  refine strip_gen (n := 1200) (fun c hc => ?_) (fun e => hne (List.append_eq_nil_iff.mp e).2) ?_ ?_
  · rcases List.mem_append.mp hc with hc | hc
    · obtain ⟨l, hl, hc⟩ := List.mem_flatten.mp hc
      rw [List.eq_of_mem_replicate hl] at hc
      rcases List.mem_cons.mp hc with rfl | hc
      · decide
      · rw [List.mem_singleton.mp hc]; decide
    · have := List.all_eq_true.mp (numS_small y hy) c hc
      simpa using this
  · have e : (((List.replicate 1100 [48, 95]).flatten ++ (numS y 0).cps.toList).getLastD 0) = (numS y 0).cps.toList.getLastD 0 := by
      rw [List.getLastD_eq_getLast?, List.getLastD_eq_getLast?, List.getLast?_append]
      cases h : (numS y 0).cps.toList.getLast? with
      | none => exact absurd (List.getLast?_eq_none_iff.mp h) hne
      | some z => rfl
    rw [e]; exact numS_last y hy
  · unfold longS
    show ((Txt.mul (Str.ofString "0_") 1100).cps ++ (numS y 0).cps ++ (Txt.mul (Str.ofString " ") 1200).cps).toList = _
    rw [Array.toList_append, Array.toList_append, mul_1100, mul_1200]
theorem long_repl {y : Nat} (hy : y < 20) : Txt.replace (Txt.rstrip (longS y)) (Str.ofString "_") (Str.ofString "") = longD y := by
  rw [long_strip hy]
  refine replace_gen ?_
  show ((List.replicate 1100 [48, 95]).flatten ++ (numS y 0).cps.toList).filter (· != 95) = _
  rw [List.filter_append, filter_rep, numS_digs y hy]
theorem long_val : ∀ y < 20, NumText.digitsVal (longD y).cps.toList = y := by decide +kernel
theorem long_all : ∀ y < 20, (longD y).cps.toList.all (fun c => decide (48 ≤ c) && decide (c ≤ 57)) = true := by decide +kernel
theorem num_join : ∀ z : Nat, z < 20 → JoinOk (Str.ofString "_") (signs (Str.ofString (toString (z : Int)))) = true := by decide +kernel
theorem num_join' {z : Int} (h0 : 0 ≤ z) (h1 : z ≤ 19) : JoinOk (Str.ofString "_") (signs (Str.ofString (toString z))) = true := by
  have := num_join z.toNat (by lia  )
  rwa [Int.toNat_of_nonneg h0] at this
theorem blank_mul (j : Nat) (hj : j < 3) : MulOk (Str.ofString " ") (j : Int) := by
  have : j = 0 ∨ j = 1 ∨ j = 2 := by lia
  rcases this with rfl | rfl | rfl <;> exact ⟨by decide, by decide, by decide⟩
theorem numS_of {z : Int} (h0 : 0 ≤ z) (j : Nat) : Txt.join (Str.ofString "_") (signs (Str.ofString (toString z))) ++ Txt.mul (Str.ofString " ") (j : Int) = numS z.toNat j := by
  unfold numS
  rw [Int.toNat_of_nonneg h0]
end Mine

end
section -- P18
open PySem PySem.W PyProof.Rows
set_option maxRecDepth 100000
namespace Mine
open PySem.Builtin.Str PySem.StrLaws
theorem str_eq {a b : Str} (h : a.cps.toList = b.cps.toList) : a = b := Str.ext' (Array.toList_inj.mp h)
theorem len_toList (a : Str) : a.cps.toList.length = a.length := Array.length_toList
noncomputable abbrev sepT : Str := Str.ofString "; own-time=\""
/-- what a header tells: the weight, the time between marks -/
noncomputable def bodyT (x y : Str) : Str := x ++ sepT ++ y ++ Str.ofString "\""
theorem app_list (a b : Str) : (a ++ b).cps.toList = a.cps.toList ++ b.cps.toList := by
  show (a.cps ++ b.cps).toList = _
  rw [Array.toList_append]
theorem join_two (x y : Str) : Txt.join (Str.ofString "; ") [x, hdrPart y] = bodyT x y := by
  unfold Txt.join
  rw [StrLaws.glued_eq_join]
  show x ++ Str.ofString "; " ++ hdrPart y = _
  unfold hdrPart bodyT
  refine str_eq ?_
  simp only [app_list]
  have e1 : (Str.ofString "; ").cps.toList = [59, 32] := rfl
  have e2 : (Str.ofString "own-time").cps.toList = [111, 119, 110, 45, 116, 105, 109, 101] := rfl
  have e3 : (Str.ofString "=\"").cps.toList = [61, 34] := rfl
  have e4 : sepT.cps.toList = [59, 32, 111, 119, 110, 45, 116, 105, 109, 101, 61, 34] := rfl
  have e5 : (Str.empty).cps.toList = [] := rfl
  rw [e1, e2, e3, e4, e5]
  simp
theorem join_ok {x y : Str} (hx : x.length < 1000) (hy : y.length < 1000) : JoinOk (Str.ofString "; ") [x, hdrPart y] = true := by
  unfold JoinOk
  rw [Bool.not_eq_true']
  have e := StrLaws.joinTotal (Str.ofString "; ") [x, hdrPart y]
  have l1 : (Str.ofString "; ").length = 2 := rfl
  have l2 : (hdrPart y).length = 11 + y.length := by
    unfold hdrPart
    simp only [Str.length_append]
    have : Str.empty.length = 0 := rfl
    have : (Str.ofString "own-time").length = 8 := rfl
    have : (Str.ofString "=\"").length = 2 := rfl
    have : (Str.ofString "\"").length = 1 := rfl
    lia  
  unfold tooLong
  refine decide_eq_false ?_
  rw [show (fun x1 (x2 : Str) => x1 + x2.length + (Str.ofString "; ").length) = fun a p => a + p.length + (Str.ofString "; ").length from rfl, e]
  simp only [List.map_cons, List.map_nil, List.sum_cons, List.sum_nil, List.length_cons, List.length_nil, l1, l2]
  have := sizeLine_eq
  lia  
theorem body_len (x y : Str) : (bodyT x y).length = x.length + y.length + 13 := by
  unfold bodyT
  simp only [Str.length_append]
  have : sepT.length = 12 := rfl
  have : (Str.ofString "\"").length = 1 := rfl
  lia  
theorem body_cut (x y : Str) : Txt.slice (bodyT x y) none (some (-1)) = x ++ sepT ++ y := by
  rw [slice_to_neg (by decide)]
  have hl := body_len x y
  have e : (max 0 (((bodyT x y).length : Int) + -1)) = ((x ++ sepT ++ y).length : Int) := by
    have : (bodyT x y).length = (x ++ sepT ++ y).length + 1 := by unfold bodyT; rw [Str.length_append]; rfl
    lia  
  rw [e]
  have hl2 : (bodyT x y).length = (x ++ sepT ++ y).length + 1 := by unfold bodyT; rw [Str.length_append]; rfl
  have h := eq_of_beq (slice_closes_toL (x := bodyT x y) (j := ((x ++ sepT ++ y).length : Int)) (by lia  ) (by lia  ))
  rw [h]
  refine str_eq ?_
  show List.take _ (List.drop _ _) = _
  have e2 : (((x ++ sepT ++ y).length : Int) - 0).toNat = (x ++ sepT ++ y).cps.toList.length := by rw [len_toList]; lia  
  rw [e2]
  unfold bodyT
  rw [app_list _ (Str.ofString "\"")]
  simp
theorem at_one {x sub : Str} {hi i c : Nat} {r : List Nat} (hs : sub.cps.toList = c :: r) (h : At x sub hi i) : x.cps.toList[i]? = some c := by
  have h2 := h.2
  rw [subAt_eq, hs] at h2
  have h3 := eq_of_beq h2
  have h4 : (List.take sub.length (List.drop i x.cps.toList))[0]? = some c := by rw [h3]; rfl
  have hl : 0 < sub.length := by rw [← len_toList, hs]; exact Nat.succ_pos _
  rw [List.getElem?_take_of_lt hl, List.getElem?_drop, Nat.add_zero] at h4
  exact h4
theorem split_two {x y : Str} (hx : 59 ∉ x.cps.toList) (hy : 59 ∉ y.cps.toList) (k1 : Builtin.Str.strKind sepT ≤ Builtin.Str.strKind (x ++ sepT ++ y)) : Txt.split (x ++ sepT ++ y) sepT = [x, y] ∧ (partsBetween (x ++ sepT ++ y) (occurrences (x ++ sepT ++ y) sepT 0 (x ++ sepT ++ y).length ((x ++ sepT ++ y).length + 1)) sepT.length).length ≤ sizeLine := by
  have hs : sepT.cps.toList = 59 :: [32, 111, 119, 110, 45, 116, 105, 109, 101, 61, 34] := rfl
  have hl12 : sepT.length = 12 := rfl
  have hl : (x ++ sepT ++ y).length = x.length + 12 + y.length := by rw [Str.length_append, Str.length_append, hl12]
  have hat : At (x ++ sepT ++ y) sepT (x ++ sepT ++ y).length x.length := by
    refine ⟨by rw [hl, hl12]; lia  , ?_⟩
    rw [subAt_eq, app_list, app_list, List.append_assoc, ← len_toList x, List.drop_left]
    rw [show sepT.length = sepT.cps.toList.length from (len_toList _).symm, List.take_left]
    exact beq_self_eq_true _
  have only : ∀ k, At (x ++ sepT ++ y) sepT (x ++ sepT ++ y).length k → k = x.length := by
    intro k hk
    have h1 := at_one hs hk
    rw [app_list, app_list, List.append_assoc] at h1
    rcases Nat.lt_trichotomy k x.length with q | q | q
    · rw [List.getElem?_append_left (by rw [len_toList]; exact q)] at h1
      exact absurd (List.mem_of_getElem? h1) hx
    · exact q
    · exfalso
      rw [List.getElem?_append_right (by rw [len_toList]; lia  ), len_toList] at h1
      rcases Nat.lt_or_ge (k - x.length) 12 with q2 | q2
      · rw [List.getElem?_append_left (by rw [len_toList, hl12]; exact q2), hs] at h1
        obtain ⟨j, hj⟩ : ∃ j, k - x.length = j + 1 := ⟨k - x.length - 1, by lia  ⟩
        rw [hj, List.getElem?_cons_succ] at h1
        exact absurd (List.mem_of_getElem? h1) (by decide)
      · rw [List.getElem?_append_right (by rw [len_toList, hl12]; exact q2)] at h1
        exact absurd (List.mem_of_getElem? h1) hy
  obtain ⟨f, ch, hf⟩ := occ_tight (x ++ sepT ++ y) sepT (by rw [hl12]; decide)
  have hocc : occurrences (x ++ sepT ++ y) sepT 0 (x ++ sepT ++ y).length ((x ++ sepT ++ y).length + 1) = [x.length] := by
    generalize occurrences (x ++ sepT ++ y) sepT 0 (x ++ sepT ++ y).length ((x ++ sepT ++ y).length + 1) = l at ch
    cases l with
    | nil =>
      have e : f = 0 := ch
      exact absurd hat (hf _ (by lia  ))
    | cons c r =>
      obtain ⟨_, c2, _, c4⟩ := ch
      have e := only c c2
      subst e
      cases r with
      | nil => rfl
      | cons c' r =>
        obtain ⟨d1, d2, _, _⟩ := c4
        have := only c' d2
        lia  
  have hp : partsBetween (x ++ sepT ++ y) [x.length] sepT.length = [x, y] := by
    rw [partsBetween_eq]
    show [strSub _ 0 x.length, strSub _ (x.length + sepT.length) _] = _
    have e1 : strSub (x ++ sepT ++ y) 0 x.length = x := by
      refine str_eq ?_
      rw [strSub_toList, app_list, app_list, List.append_assoc, List.drop_zero, Nat.sub_zero, ← len_toList x, List.take_left]
    have e2 : strSub (x ++ sepT ++ y) (x.length + sepT.length) (x ++ sepT ++ y).length = y := by
      refine str_eq ?_
      rw [strSub_toList, app_list, app_list, hl]
      have e3 : x.length + sepT.length = (x.cps.toList ++ sepT.cps.toList).length := by rw [List.length_append, len_toList, len_toList]
      rw [e3, List.drop_left]
      refine List.take_of_length_le ?_
      rw [List.length_append, len_toList, len_toList, len_toList]; lia  
    rw [e1, e2]
  rw [hocc]
  refine ⟨?_, by rw [hp]; exact Nat.le_of_ble_eq_true rfl⟩
  unfold Txt.split
  rw [if_neg, hocc, if_neg (by simp), hp]
  rw [Bool.or_eq_true, not_or]
  exact ⟨by rw [decide_eq_true_eq, hl, hl12]; lia  , by rw [decide_eq_true_eq]; lia  ⟩
theorem kind_one (x : Str) : Builtin.Str.strKind sepT ≤ Builtin.Str.strKind x := by
  have e : Builtin.Str.strKind sepT = 1 := by decide +kernel
  rw [e]
  unfold Builtin.Str.strKind
  split
  · decide
  · split <;> decide
/-! the numerals: what the walk asks of them -/
theorem numS_semi : ∀ z < 20, ∀ j < 3, 59 ∉ (numS z j).cps.toList := by decide +kernel
theorem hdr_split {z y j : Nat} (hz : z < 20) (hy : y < 20) (hj : j < 3) : Txt.split (numS z j ++ sepT ++ numS y j) sepT = [numS z j, numS y j] := (split_two (numS_semi z hz j hj) (numS_semi y hy j hj) (kind_one _)).1
theorem hdr_parts {z y j : Nat} (hz : z < 20) (hy : y < 20) (hj : j < 3) : (partsBetween (numS z j ++ sepT ++ numS y j) (occurrences (numS z j ++ sepT ++ numS y j) sepT 0 (numS z j ++ sepT ++ numS y j).length ((numS z j ++ sepT ++ numS y j).length + 1)) sepT.length).length ≤ sizeLine := (split_two (numS_semi z hz j hj) (numS_semi y hy j hj) (kind_one _)).2
noncomputable def AddOk (x y : Str) : Prop := x.length + y.length ≤ sizeLine
theorem num_add {z : Int} (h0 : 0 ≤ z) (h1 : z ≤ 19) {i j : Nat} (hj : j = i % 3) : AddOk (Txt.join (Str.ofString "_") (signs (Str.ofString (toString z)))) (Txt.mul (Str.ofString " ") ((i : Int).fmod 3)) ∧
    Txt.join (Str.ofString "_") (signs (Str.ofString (toString z))) ++ Txt.mul (Str.ofString " ") ((i : Int).fmod 3) = numS z.toNat j := by
  have e : (i : Int).fmod 3 = (j : Int) := by rw [Int.fmod_eq_emod_of_nonneg _ (by decide)]; lia  
  rw [e]
  have e2 := numS_of h0 j
  refine ⟨?_, e2⟩
  have hl := numS_len z.toNat (by lia  ) j (by lia  )
  rw [← e2, Str.length_append] at hl
  unfold AddOk
  rw [sizeLine_eq]; lia  
theorem call_addS {prog : Program} {w : World} {A : Around} {E : Value → Shared → Prop} {s : Shared} {Q : Value → Shared → Prop} {x y : Str} {t u : Tok} (h : AddOk x y) (k : ∀ t' tk, Q (.str (x ++ y) t') { s with toks := tk }) :
    wpAny (model prog w) A (binaryOp .Add (.str x t) (.str y u)) Q E s := PyProof.Rows.add_str k h
/-! texts that Headers take -/
theorem okText_dec {x : Str} (h : x.cps.toList.all (fun c => decide (32 ≤ c) && decide (c ≤ 126)) = true) : OkText x := fun c hc => by
  have := List.all_eq_true.mp h c hc
  simpa using this
theorem okS_num {z j : Nat} (hz : z < 20) (hj : j < 3) : OkS (numS z j) := ⟨okText_dec (numS_ok z hz j hj), by have := numS_len z hz j hj; show (numS z j).length < _; lia  ⟩
theorem okS_letter {k : Nat} (h : k < 5) : OkS (letter k) := ⟨fun c hc => by
  have hc' : c ∈ [97 + k] := hc
  rw [List.mem_singleton.mp hc']; lia  , by show 1 < _; decide⟩
theorem okS_upper {k : Nat} (h : k < 5) : OkS (upper k) := ⟨fun c hc => by
  have hc' : c ∈ [65 + k] := hc
  rw [List.mem_singleton.mp hc']; lia  , by show 1 < _; decide⟩
theorem okText_app {x y : Str} (hx : OkText x) (hy : OkText y) : OkText (x ++ y) := fun c hc => by
  rw [app_list] at hc
  exact (List.mem_append.mp hc).elim (hx c) (hy c)
theorem okS_body {x y : Str} (hx : OkS x) (hy : OkS y) (lx : x.length < 1000) (ly : y.length < 1000) : OkS (bodyT x y) :=
  ⟨okText_app (okText_app (okText_app hx.1 (okText_dec (by decide +kernel))) hy.1) (okText_dec (by decide +kernel)), by
    have := body_len x y
    show (bodyT x y).length < _; lia  ⟩
theorem okS_own : OkS (Str.ofString "own_time") := ⟨okText_dec (by decide +kernel), by decide +kernel⟩
theorem lower_letter : ∀ k < 5, Txt.lower (letter k) = letter k := by decide +kernel
theorem lower_upper : ∀ k < 5, Txt.lower (upper k) = letter k := by decide +kernel
theorem upper_letter : ∀ k < 5, Txt.upper (letter k) = upper k := by decide +kernel
/-- the text that a job has in the book -/
noncomputable def hdr1 (d wt : Nat → Int) (k : Nat) : Str × Str := (letter k, bodyT (numS (wt k).toNat (k % 3)) (numS (d k).toNat (k % 3)))
noncomputable def hdrs (d wt : Nat → Int) (i : Nat) : List (Str × Str) := (List.range i).map (hdr1 d wt)
theorem hdrs_succ {d wt : Nat → Int} {i : Nat} : hdrs d wt (i + 1) = hdrs d wt i ++ [hdr1 d wt i] := by
  unfold hdrs; rw [List.range_succ, List.map_append]; rfl
theorem add_ok1 {x : Str} (lx : x.length < 1000) : AddOk x sepT := by
  unfold AddOk; rw [sizeLine_eq, show sepT.length = 12 from rfl]; lia  
theorem add_ok2 {x y : Str} (lx : x.length < 1000) (ly : y.length < 1000) : AddOk (x ++ sepT) y := by
  unfold AddOk; rw [sizeLine_eq, Str.length_append, show sepT.length = 12 from rfl]; lia  
theorem add_ok3 {x y : Str} (lx : x.length < 1000) (ly : y.length < 1000) : AddOk (x ++ sepT ++ y) (Str.ofString "\"") := by
  unfold AddOk; rw [sizeLine_eq, Str.length_append, Str.length_append, show sepT.length = 12 from rfl, show (Str.ofString "\"").length = 1 from rfl]; lia  
theorem sub_cons {α : Type} {x : α} {n n' : List α} (h : x ∈ n') (k : ∀ p ∈ n, p ∈ n') : ∀ p ∈ x :: n, p ∈ n' := List.forall_mem_cons.mpr ⟨h, k⟩
theorem News.up1 {h₀ h : Heap} {L : Addr} {a x : Addr × Obj} {n : List (Addr × Obj)} (N : News h₀ L h (a :: x :: n)) : News h₀ L h (x :: a :: n) :=
  News.sub N (sub_cons (.tail _ (.head _)) (sub_cons (.head _) fun _ hp => .tail _ (.tail _ hp)))
theorem News.up2 {h₀ h : Heap} {L : Addr} {a b x : Addr × Obj} {n : List (Addr × Obj)} (N : News h₀ L h (a :: b :: x :: n)) : News h₀ L h (x :: a :: b :: n) :=
  News.sub N (sub_cons (.tail _ (.tail _ (.head _))) (sub_cons (.head _) (sub_cons (.tail _ (.head _)) fun _ hp => .tail _ (.tail _ (.tail _ hp)))))
theorem News.up3 {h₀ h : Heap} {L : Addr} {a b c x : Addr × Obj} {n : List (Addr × Obj)} (N : News h₀ L h (a :: b :: c :: x :: n)) : News h₀ L h (x :: a :: b :: c :: n) :=
  News.sub N (sub_cons (.tail _ (.tail _ (.tail _ (.head _)))) (sub_cons (.head _) (sub_cons (.tail _ (.head _)) (sub_cons (.tail _ (.tail _ (.head _))) fun _ hp => .tail _ (.tail _ (.tail _ (.tail _ hp)))))))
theorem News.up4 {h₀ h : Heap} {L : Addr} {a b c d x : Addr × Obj} {n : List (Addr × Obj)} (N : News h₀ L h (a :: b :: c :: d :: x :: n)) : News h₀ L h (x :: a :: b :: c :: d :: n) :=
  News.sub N (sub_cons (.tail _ (.tail _ (.tail _ (.tail _ (.head _))))) (sub_cons (.head _) (sub_cons (.tail _ (.head _)) (sub_cons (.tail _ (.tail _ (.head _))) (sub_cons (.tail _ (.tail _ (.tail _ (.head _)))) fun _ hp => .tail _ (.tail _ (.tail _ (.tail _ (.tail _ hp)))))))))
theorem neA {n : List (Addr × Obj)} {a d : Addr} {o : Obj} (h1 : a ≠ d) (h : ∀ p ∈ n, p.1 ≠ d) : ∀ p ∈ (a, o) :: n, p.1 ≠ d := List.forall_mem_cons.mpr ⟨h1, h⟩
theorem ltA {n : List (Addr × Obj)} {a d : Addr} {o : Obj} (h1 : a < d) (h : ∀ p ∈ n, p.1 < d) : ∀ p ∈ (a, o) :: n, p.1 < d := List.forall_mem_cons.mpr ⟨h1, h⟩
end Mine

end
section -- M1
open PySem PySem.W PyProof.Rows
set_option maxRecDepth 100000
namespace Mine
/-! the plain law: rows of jobs, their cost -/
noncomputable def durL (d : Nat → Int) (r : List Nat) : Int := (r.map d).sum
noncomputable def costF (d w : Nat → Int) : Int → List Nat → Int
  | _, [] => 0
  | c, k :: r => w k * (c + d k) + costF d w (c + d k) r
noncomputable def untilF (d : Nat → Int) : Int → List Nat → List (Str × Int)
  | _, [] => []
  | c, k :: r => (letter k, c + d k) :: untilF d (c + d k) r
section
variable {d w : Nat → Int} {b : Nat → Nat}
theorem durL_nil : durL d [] = 0 := rfl
theorem durL_cons (k : Nat) (r : List Nat) : durL d (k :: r) = d k + durL d r := rfl
theorem durL_append (x y : List Nat) : durL d (x ++ y) = durL d x + durL d y := by unfold durL; rw [List.map_append, List.sum_append]
theorem runF_is (r : List Nat) : ∀ (c t : Int) (u : List (Str × Int)), runF d w r c t u = (c + durL d r, t + costF d w c r, u ++ untilF d c r) := by
  induction r with
  | nil => intro c t u; simp [runF, durL, costF, untilF]
  | cons k r ih =>
    intro c t u
    rw [runF, ih, durL_cons, costF, untilF]
    simp [Int.add_assoc]
theorem costF_append (x : List Nat) : ∀ (c : Int) (y : List Nat), costF d w c (x ++ y) = costF d w c x + costF d w (c + durL d x) y := by
  induction x with
  | nil => intro c y; simp [costF, durL]
  | cons k r ih => intro c y; rw [List.cons_append, costF, ih, costF, durL_cons, Int.add_assoc, Int.add_assoc]
theorem costF_shift (x : List Nat) : ∀ (c e : Int), costF d w (c + e) x = costF d w c x + e * durL w x := by
  induction x with
  | nil => intro c e; simp [costF, durL]
  | cons k r ih =>
    intro c e
    rw [costF, costF, durL_cons, show c + e + d k = (c + d k) + e by lia  , ih, Int.mul_add, Int.mul_add, Int.mul_add, Int.mul_comm (w k) e]
    lia  
theorem costF_two (x y : List Nat) (c : Int) : costF d w c (x ++ y) = costF d w c x + costF d w c y + durL d x * durL w y := by
  rw [costF_append, costF_shift, Int.add_assoc]
theorem untilF_append (x : List Nat) : ∀ (c : Int) (y : List Nat), untilF d c (x ++ y) = untilF d c x ++ untilF d (c + durL d x) y := by
  induction x with
  | nil => intro c y; simp [untilF, durL]
  | cons k r ih => intro c y; rw [List.cons_append, untilF, ih, untilF, durL_cons, List.cons_append, Int.add_assoc]
theorem untilF_keys (x : List Nat) : ∀ c, (untilF d c x).map (·.1) = x.map letter := by
  induction x with
  | nil => intro c; rfl
  | cons k r ih => intro c; rw [untilF, List.map_cons, List.map_cons, ih]
/-- to lay B ahead of blocks that weigh less for their time costs no more -/
theorem swap_le {row : Nat → List Nat} {B : List Nat} {X : List Nat} (h : ∀ q ∈ X, durL w (row q) * durL d B ≤ durL w B * durL d (row q)) : durL w (X.flatMap row) * durL d B ≤ durL w B * durL d (X.flatMap row) := by
  induction X with
  | nil => simp [durL]
  | cons q X ih =>
    rw [List.flatMap_cons, durL_append, durL_append, Int.add_mul, Int.mul_add]
    have h1 := h q (.head _)
    have h2 := ih fun q hq => h q (.tail _ hq)
    lia  
theorem exch {A H B X Z : List Nat} (h : durL w X * durL d B ≤ durL w B * durL d X) : costF d w 0 (A ++ (H ++ B ++ (X ++ Z))) ≤ costF d w 0 (A ++ (H ++ (X ++ (B ++ Z)))) := by
  have e1 : A ++ (H ++ B ++ (X ++ Z)) = (A ++ H) ++ ((B ++ X) ++ Z) := by simp
  have e2 : A ++ (H ++ (X ++ (B ++ Z))) = (A ++ H) ++ ((X ++ B) ++ Z) := by simp
  rw [e1, e2, costF_append, costF_append (A ++ H), costF_append (B ++ X), costF_append (X ++ B), costF_two B X, costF_two X B, durL_append B X, durL_append X B]
  rw [Int.mul_comm (durL w X), Int.mul_comm (durL w B)] at h
  rw [Int.add_comm (durL d X)]
  lia  
/-! feasible rows -/
theorem fe_append (x : List Nat) : ∀ (seen y : List Nat), FeasAt b seen (x ++ y) ↔ FeasAt b seen x ∧ FeasAt b (seen ++ x) y := by
  induction x with
  | nil => intro seen y; simp [FeasAt]
  | cons k r ih =>
    intro seen y
    rw [List.cons_append, FeasAt, FeasAt, ih]
    have e : seen ++ [k] ++ r = seen ++ k :: r := by simp
    rw [e]
    constructor
    · rintro ⟨a1, a2, a3, a4, a5⟩; exact ⟨⟨a1, a2, a3, a4⟩, a5⟩
    · rintro ⟨⟨a1, a2, a3, a4⟩, a5⟩; exact ⟨a1, a2, a3, a4, a5⟩
theorem fe_lt (x : List Nat) : ∀ (seen : List Nat), FeasAt b seen x → ∀ k ∈ x, k < 5 := by
  induction x with
  | nil => intro _ _ k hk; cases hk
  | cons q r ih =>
    rintro seen ⟨a1, _, _, a4⟩ k hk
    rcases List.mem_cons.mp hk with rfl | hk
    · exact a1
    · exact ih _ a4 k hk
theorem fe_new (x : List Nat) : ∀ (seen : List Nat), FeasAt b seen x → ∀ k ∈ x, k ∉ seen := by
  induction x with
  | nil => intro _ _ k hk; cases hk
  | cons q r ih =>
    rintro seen ⟨_, a2, _, a4⟩ k hk
    rcases List.mem_cons.mp hk with rfl | hk
    · exact a2
    · exact fun h => ih _ a4 k hk (List.mem_append_left _ h)
theorem fe_nodup (x : List Nat) : ∀ (seen : List Nat), FeasAt b seen x → x.Nodup := by
  induction x with
  | nil => intro _ _; exact List.nodup_nil
  | cons q r ih =>
    rintro seen ⟨_, a2, _, a4⟩
    exact List.nodup_cons.mpr ⟨fun h => fe_new r _ a4 q h (by simp), ih _ a4⟩
variable {par : Nat → Nat} {p h : Nat}
noncomputable def parG (par : Nat → Nat) (p : Nat) : Nat → Nat := fun k => if par k = p then par p else par k
theorem parG_ne {k : Nat} (e : par k ≠ p) : parG par p k = par k := if_neg e
theorem parG_eq {k : Nat} (e : par k = p) : parG par p k = par p := if_pos e
theorem fe_zero {x : List Nat} {S : Nat → Nat} (f : FeasAt S [] x) (h : 0 ∈ x) : x.head? = some 0 := by
  cases x with
  | nil => cases h
  | cons k r =>
    obtain ⟨_, _, a3, _⟩ := f
    rcases a3 with e | e
    · rw [e]; rfl
    · cases e
theorem fe_before (x : List Nat) : ∀ (seen : List Nat), FeasAt par seen x → p ∉ seen → p ∉ x → FeasAt (parG par p) seen x := by
  induction x with
  | nil => intro _ _ _ _; trivial
  | cons k r ih =>
    rintro seen ⟨a1, a2, a3, a4⟩ h1 h2
    refine ⟨a1, a2, a3.imp_right fun a3 => ?_, ih _ a4 ?_ fun h => h2 (.tail _ h)⟩
    · rw [parG_ne (fun e => h1 (by rw [← e]; exact a3))]; exact a3
    · intro h
      rcases List.mem_append.mp h with h | h
      · exact h1 h
      · exact h2 (by rw [List.mem_singleton.mp h]; exact .head _)
theorem fe_after (x : List Nat) : ∀ (seen seen' : List Nat), FeasAt par seen x → (∀ k ∈ seen, k ≠ p → k ∈ seen') → (∀ k ∈ seen', k ∈ seen) → par p ∈ seen' → FeasAt (parG par p) seen' x := by
  induction x with
  | nil => intro _ _ _ _ _ _; trivial
  | cons k r ih =>
    rintro seen seen' ⟨a1, a2, a3, a4⟩ h1 h2 h3
    refine ⟨a1, fun h => a2 (h2 k h), a3.imp_right fun a3 => ?_, ih _ _ a4 ?_ ?_ (List.mem_append_left _ h3)⟩
    · by_cases e : par k = p
      · rw [parG_eq e]; exact h3
      · rw [parG_ne e]; exact h1 _ a3 e
    · intro q hq hne
      rcases List.mem_append.mp hq with hq | hq
      · exact List.mem_append_left _ (h1 q hq hne)
      · exact List.mem_append_right _ hq
    · intro q hq
      rcases List.mem_append.mp hq with hq | hq
      · exact List.mem_append_left _ (h2 q hq)
      · exact List.mem_append_right _ hq
theorem fe_beforeR (x : List Nat) : ∀ (seen : List Nat), FeasAt (parG par p) seen x → par p ∉ seen → par p ∉ x → FeasAt par seen x := by
  induction x with
  | nil => intro _ _ _ _; trivial
  | cons k r ih =>
    rintro seen ⟨a1, a2, a3, a4⟩ h1 h2
    refine ⟨a1, a2, a3.imp_right fun a3 => ?_, ih _ a4 ?_ fun h => h2 (.tail _ h)⟩
    · by_cases e : par k = p
      · rw [parG_eq e] at a3; exact absurd a3 h1
      · rw [parG_ne e] at a3; exact a3
    · intro h
      rcases List.mem_append.mp h with h | h
      · exact h1 h
      · exact h2 (by rw [List.mem_singleton.mp h]; exact .head _)
theorem fe_afterR (x : List Nat) : ∀ (seen seen' : List Nat), FeasAt (parG par p) seen' x → (∀ k ∈ seen, k = p ∨ k ∈ seen') → (∀ k ∈ seen', k ∈ seen) → p ∈ seen → p ∉ x → FeasAt par seen x := by
  induction x with
  | nil => intro _ _ _ _ _ _ _; trivial
  | cons k r ih =>
    rintro seen seen' ⟨a1, a2, a3, a4⟩ h1 h2 h3 h4
    refine ⟨a1, fun h => ?_, a3.imp_right fun a3 => ?_, ih _ _ a4 ?_ ?_ (List.mem_append_left _ h3) fun h => h4 (.tail _ h)⟩
    · rcases h1 k h with rfl | h
      · exact h4 (.head _)
      · exact a2 h
    · by_cases e : par k = p
      · rw [e]; exact h3
      · rw [parG_ne e] at a3; exact h2 _ a3
    · intro q hq
      rcases List.mem_append.mp hq with hq | hq
      · exact (h1 q hq).imp_right fun h => List.mem_append_left _ h
      · exact .inr (List.mem_append_right _ hq)
    · intro q hq
      rcases List.mem_append.mp hq with hq | hq
      · exact List.mem_append_left _ (h2 q hq)
      · exact List.mem_append_right _ hq
end
end Mine
namespace Mine
/-- a stage: the row of each block, its forerunner, the pairs that still wait (with great letters or small) -/
structure St where
  row : Nat → List Nat
  par : Nat → Nat
  ps : List (Nat × Bool)
noncomputable def St.alive (S : St) (k : Nat) : Prop := k = 0 ∨ k ∈ S.ps.map (·.1)
noncomputable def St.glue (S : St) (p : Nat) : St where
  row := fun k => if k = S.par p then S.row k ++ S.row p else S.row k
  par := parG S.par p
  ps := ((S.ps.filter fun q => q.1 != p).filter fun q => S.par q.1 != p) ++ ((S.ps.filter fun q => q.1 != p).filter fun q => S.par q.1 == p).map fun q => (q.1, true)
structure Good (d w : Nat → Int) (b : Nat → Nat) (S : St) : Prop where
  nd : (S.ps.map (·.1)).Nodup
  lt : ∀ k ∈ S.ps.map (·.1), 0 < k ∧ k < 5
  pl : ∀ k ∈ S.ps.map (·.1), S.par k < k ∧ S.alive (S.par k)
  low : ∀ π, FeasAt b [] π → π.length = 5 → ∃ σ, FeasAt S.par [] σ ∧ (∀ k, k ∈ σ ↔ S.alive k) ∧ costF d w 0 (σ.flatMap S.row) ≤ costF d w 0 π
  fea : ∀ σ, FeasAt S.par [] σ → (∀ k, k ∈ σ ↔ S.alive k) → FeasAt b [] (σ.flatMap S.row) ∧ (σ.flatMap S.row).length = 5
theorem mem_ps {S : St} {k : Nat} : k ∈ S.ps.map (·.1) ↔ ∃ u, (k, u) ∈ S.ps := by
  simp [List.mem_map]
theorem glue_names {S : St} {p k : Nat} : k ∈ (S.glue p).ps.map (·.1) ↔ k ≠ p ∧ k ∈ S.ps.map (·.1) := by
  simp only [St.glue, List.map_append, List.map_map, List.mem_append, List.mem_map, List.mem_filter]
  constructor
  · rintro (⟨q, ⟨⟨h1, h2⟩, h3⟩, rfl⟩ | ⟨q, ⟨⟨h1, h2⟩, h3⟩, rfl⟩)
    · exact ⟨by simpa using h2, q, h1, rfl⟩
    · exact ⟨by simpa using h2, q, h1, rfl⟩
  · rintro ⟨h0, q, h1, rfl⟩
    by_cases e : S.par q.1 = p
    · exact .inr ⟨q, ⟨⟨h1, by simpa using h0⟩, by simpa using e⟩, rfl⟩
    · exact .inl ⟨q, ⟨⟨h1, by simpa using h0⟩, by simpa using e⟩, rfl⟩
theorem glue_alive {S : St} {p k : Nat} (hp : p ≠ 0) : (S.glue p).alive k ↔ k ≠ p ∧ S.alive k := by
  unfold St.alive
  rw [glue_names]
  constructor
  · rintro (rfl | ⟨h1, h2⟩)
    · exact ⟨fun e => hp e.symm, .inl rfl⟩
    · exact ⟨h1, .inr h2⟩
  · rintro ⟨h1, rfl | h2⟩
    · exact .inl rfl
    · exact .inr ⟨h1, h2⟩
theorem nodup_part {l : List (Nat × Bool)} (f : Nat × Bool → Bool) (h : (l.map (·.1)).Nodup) : ((l.filter f).map (·.1) ++ (l.filter fun q => !f q).map (·.1)).Nodup := by
  induction l with
  | nil => exact List.nodup_nil
  | cons a r ih =>
    rw [List.map_cons, List.nodup_cons] at h
    have ih := ih h.2
    have sub1 : ∀ (g : Nat × Bool → Bool), a.1 ∉ (r.filter g).map (·.1) := fun g hm => by
      obtain ⟨q, hq, e⟩ := List.mem_map.mp hm
      exact h.1 (List.mem_map.mpr ⟨q, (List.mem_filter.mp hq).1, e⟩)
    cases e : f a with
    | true =>
      simp only [List.filter_cons, e, if_true, Bool.not_true, Bool.false_eq_true, if_false, List.map_cons, List.cons_append, List.nodup_cons]
      exact ⟨fun hm => (List.mem_append.mp hm).elim (sub1 _) (sub1 _), ih⟩
    | false =>
      simp only [List.filter_cons, e, Bool.false_eq_true, if_false, Bool.not_false, if_true, List.map_cons]
      have := List.nodup_append.mp ih
      refine List.nodup_append.mpr ⟨this.1, List.nodup_cons.mpr ⟨sub1 _, this.2.1⟩, fun x hx y hy => ?_⟩
      rcases List.mem_cons.mp hy with rfl | hy
      · exact fun e => sub1 _ (e ▸ hx)
      · exact this.2.2 x hx y hy
theorem flat_same {r r' : Nat → List Nat} {l : List Nat} (h : ∀ k ∈ l, r k = r' k) : l.flatMap r = l.flatMap r' := by
  induction l with
  | nil => rfl
  | cons a l ih => rw [List.flatMap_cons, List.flatMap_cons, h a (.head _), ih fun k hk => h k (.tail _ hk)]
section
variable {d w : Nat → Int} {b : Nat → Nat} {S : St}
/-- a glueing keeps it -/
theorem Good.glue (G : Good d w b S) {p : Nat} (hp : p ∈ S.ps.map (·.1)) (best : ∀ q ∈ S.ps.map (·.1), durL w (S.row q) * durL d (S.row p) ≤ durL w (S.row p) * durL d (S.row q)) : Good d w b (S.glue p) := by
  have p0 : p ≠ 0 := by have := (G.lt p hp).1; lia  
  have php : S.par p ≠ p := by have := (G.pl p hp).1; lia  
  have hnd : ((S.glue p).ps.map (·.1)).Nodup := by
    have h1 : ((S.ps.filter fun q => q.1 != p).map (·.1)).Nodup := by
      have := nodup_part (fun q => q.1 != p) G.nd
      exact (List.nodup_append.mp this).1
    have h2 := nodup_part (fun q => S.par q.1 != p) h1
    simp only [St.glue, List.map_append, List.map_map]
    have e : (fun q : Nat × Bool => !(S.par q.1 != p)) = fun q => S.par q.1 == p := by funext q; simp [bne]
    rw [e] at h2
    exact h2
  refine ⟨hnd, fun k hk => G.lt k (glue_names.mp hk).2, fun k hk => ?_, fun π hπ hl => ?_, fun σ hσ hc => ?_⟩
  · obtain ⟨h1, h2⟩ := glue_names.mp hk
    show parG S.par p k < k ∧ (S.glue p).alive (parG S.par p k)
    rw [glue_alive p0]
    have z := G.pl k h2
    by_cases e : S.par k = p
    · rw [parG_eq e]
      have z2 := G.pl p hp
      exact ⟨by lia  , php, z2.2⟩
    · rw [parG_ne e]; exact ⟨z.1, e, z.2⟩
  · obtain ⟨σ, f, c, hle⟩ := G.low π hπ hl
    have hpσ := (c p).mpr (.inr hp)
    obtain ⟨A, Z, rfl⟩ := List.append_of_mem hpσ
    have nd := fe_nodup _ _ f
    rw [fe_append] at f
    obtain ⟨f1, f2⟩ := f
    obtain ⟨_, _, f3, f4⟩ := f2
    rw [List.nil_append] at f3 f4
    have hhA : S.par p ∈ A := f3.resolve_left p0
    have hpA : p ∉ A := fun h => (List.nodup_append.mp nd).2.2 p h p (.head _) rfl
    have hpZ : p ∉ Z := (List.nodup_cons.mp (List.nodup_append.mp nd).2.1).1
    obtain ⟨A1, X, rfl⟩ := List.append_of_mem hhA
    have g1 : FeasAt (parG S.par p) [] (A1 ++ S.par p :: X) := fe_before _ _ f1 (by simp) hpA
    have g2 : FeasAt (parG S.par p) (A1 ++ S.par p :: X) Z := fe_after _ _ _ f4 (fun k hk hne => by
      rcases List.mem_append.mp hk with hk | hk
      · exact hk
      · exact absurd (List.mem_singleton.mp hk) hne) (fun k hk => List.mem_append_left _ hk) hhA
    refine ⟨(A1 ++ S.par p :: X) ++ Z, (fe_append _ _ _).mpr ⟨g1, by rw [List.nil_append]; exact g2⟩, fun k => ?_, Int.le_trans ?_ hle⟩
    · rw [glue_alive p0, ← c k]
      constructor
      · intro hk
        refine ⟨fun e => ?_, ?_⟩
        · subst e
          rcases List.mem_append.mp hk with hk | hk
          · exact hpA hk
          · exact hpZ hk
        · rcases List.mem_append.mp hk with hk | hk
          · exact List.mem_append_left _ hk
          · exact List.mem_append_right _ (.tail _ hk)
      · rintro ⟨hne, hk⟩
        rcases List.mem_append.mp hk with hk | hk
        · exact List.mem_append_left _ hk
        · rcases List.mem_cons.mp hk with rfl | hk
          · exact absurd rfl hne
          · exact List.mem_append_right _ hk
    · have ndA := (List.nodup_append.mp nd).1
      have hA1 : S.par p ∉ A1 := fun h => (List.nodup_append.mp ndA).2.2 _ h _ (.head _) rfl
      have hX : S.par p ∉ X := (List.nodup_cons.mp (List.nodup_append.mp ndA).2.1).1
      have hZ : S.par p ∉ Z := fun h => (List.nodup_append.mp nd).2.2 _ hhA _ (.tail _ h) rfl
      have off : ∀ l : List Nat, S.par p ∉ l → l.flatMap (S.glue p).row = l.flatMap S.row := fun l hl => flat_same fun k hk => if_neg fun (e : k = S.par p) => hl (by rw [← e]; exact hk)
      have eh : (S.glue p).row (S.par p) = S.row (S.par p) ++ S.row p := if_pos rfl
      have xb : ∀ q ∈ X, q ∈ S.ps.map (·.1) := fun q hq => by
        have hmem : q ∈ A1 ++ S.par p :: X := List.mem_append_right _ (.tail _ hq)
        rcases (c q).mp (List.mem_append_left _ hmem) with e | h
        · exfalso
          subst e
          -- 0 stands at the very head
          have := fe_zero f1 hmem
          cases A1 with
          | nil =>
            rw [List.nil_append] at this
            simp at this
            exact hX (this ▸ hq)
          | cons z A1 =>
            simp at this
            subst this
            exact (List.nodup_cons.mp ndA).1 (List.mem_append_right _ (.tail _ hq))
        · exact h
      have key := exch (A := A1.flatMap S.row) (H := S.row (S.par p)) (B := S.row p) (X := X.flatMap S.row) (Z := Z.flatMap S.row) (swap_le fun q hq => best q (xb q hq))
      rw [List.flatMap_append, List.flatMap_append, List.flatMap_cons, off _ hA1, off _ hX, off _ hZ, eh]
      rw [List.flatMap_append, List.flatMap_append, List.flatMap_cons, List.flatMap_cons]
      simp only [List.append_assoc] at key ⊢
      exact key
  · have hh : S.par p ∈ σ := (hc _).mpr ((glue_alive p0).mpr ⟨php, (G.pl p hp).2⟩)
    have hpσ : p ∉ σ := fun h => ((glue_alive p0).mp ((hc _).mp h)).1 rfl
    obtain ⟨A, Z, rfl⟩ := List.append_of_mem hh
    have nd := fe_nodup _ _ hσ
    have hA : S.par p ∉ A := fun h => (List.nodup_append.mp nd).2.2 _ h _ (.head _) rfl
    have hZ : S.par p ∉ Z := (List.nodup_cons.mp (List.nodup_append.mp nd).2.1).1
    have hpA : p ∉ A := fun h => hpσ (List.mem_append_left _ h)
    have hpZ : p ∉ Z := fun h => hpσ (List.mem_append_right _ (.tail _ h))
    rw [fe_append] at hσ
    obtain ⟨f1, f2⟩ := hσ
    obtain ⟨k1, k2, k3, f4⟩ := f2
    rw [List.nil_append] at k2 k3 f4
    have g1 := fe_beforeR _ _ f1 (by simp) hA
    have g2 : FeasAt S.par (A ++ [S.par p] ++ [p]) Z := fe_afterR _ _ _ f4 (fun k hk => by
      rcases List.mem_append.mp hk with hk | hk
      · exact .inr hk
      · exact .inl (List.mem_singleton.mp hk)) (fun k hk => List.mem_append_left _ hk) (List.mem_append_right _ (.head _)) hpZ
    have g3 : S.par p = 0 ∨ S.par (S.par p) ∈ A := k3.imp_right fun k3 => by
      replace k3 : parG S.par p (S.par p) ∈ A := k3
      by_cases e : S.par (S.par p) = p
      · rw [parG_eq e] at k3; exact absurd k3 k2
      · rw [parG_ne e] at k3; exact k3
    have F : FeasAt S.par [] (A ++ S.par p :: p :: Z) := (fe_append _ _ _).mpr ⟨g1, by
      rw [List.nil_append]
      refine ⟨k1, k2, g3, (G.lt p hp).2, ?_, .inr (List.mem_append_right _ (.head _)), g2⟩
      intro h
      rcases List.mem_append.mp h with h | h
      · exact hpA h
      · exact php (List.mem_singleton.mp h).symm⟩
    have off : ∀ l : List Nat, S.par p ∉ l → l.flatMap (S.glue p).row = l.flatMap S.row := fun l hl => flat_same fun k hk => if_neg fun (e : k = S.par p) => hl (by rw [← e]; exact hk)
    have eh : (S.glue p).row (S.par p) = S.row (S.par p) ++ S.row p := if_pos rfl
    have e : (A ++ S.par p :: Z).flatMap (S.glue p).row = (A ++ S.par p :: p :: Z).flatMap S.row := by
      rw [List.flatMap_append, List.flatMap_append, List.flatMap_cons, List.flatMap_cons, List.flatMap_cons, off _ hA, off _ hZ, eh, List.append_assoc]
    rw [e]
    refine G.fea _ F fun k => ?_
    have z := hc k
    rw [glue_alive p0] at z
    constructor
    · intro hk
      rcases List.mem_append.mp hk with hk | hk
      · exact (z.mp (List.mem_append_left _ hk)).2
      · rcases List.mem_cons.mp hk with rfl | hk
        · exact (z.mp (List.mem_append_right _ (.head _))).2
        · rcases List.mem_cons.mp hk with rfl | hk
          · exact .inr hp
          · exact (z.mp (List.mem_append_right _ (.tail _ hk))).2
    · intro hk
      by_cases e : k = p
      · subst e; exact List.mem_append_right _ (.tail _ (.head _))
      · rcases List.mem_append.mp (z.mpr ⟨e, hk⟩) with hk | hk
        · exact List.mem_append_left _ hk
        · rcases List.mem_cons.mp hk with rfl | hk
          · exact List.mem_append_right _ (.head _)
          · exact List.mem_append_right _ (.tail _ (.tail _ hk))
end
end Mine
namespace Mine
theorem nodup_sub : ∀ (l m : List Nat), l.Nodup → (∀ k ∈ l, k ∈ m) → l.length ≤ m.length
  | [], _, _, _ => Nat.zero_le _
  | a :: r, m, hn, h => by
    have h1 := List.nodup_cons.mp hn
    have := nodup_sub r (m.erase a) h1.2 fun k hk => (List.mem_erase_of_ne (fun e => h1.1 (by rw [← e]; exact hk))).mpr (h k (.tail _ hk))
    have h2 := List.length_erase_of_mem (h a (.head _))
    have h3 := List.length_pos_of_mem (h a (.head _))
    simp only [List.length_cons]; lia  
section
variable {d w : Nat → Int} {b : Nat → Nat}
theorem minL_le : ∀ {l : List Int} {x : Int}, x ∈ l → minL l ≤ x := by
  have key : ∀ (r : List Int) (x : Int), r.foldl min x ≤ x ∧ (∀ a ∈ r, r.foldl min x ≤ a) := by
    intro r
    induction r with
    | nil => intro x; exact ⟨Int.le_refl _, fun a h => absurd h (List.not_mem_nil)⟩
    | cons y r ih =>
      intro x
      obtain ⟨h1, h2⟩ := ih (min x y)
      refine ⟨Int.le_trans h1 (Int.min_le_left _ _), fun a ha => ?_⟩
      rcases List.mem_cons.mp ha with rfl | ha
      · exact Int.le_trans h1 (Int.min_le_right _ _)
      · exact h2 a ha
  intro l x h
  cases l with
  | nil => cases h
  | cons y r =>
    rcases List.mem_cons.mp h with rfl | h
    · exact (key r x).1
    · exact (key r y).2 x h
theorem minL_mem : ∀ {l : List Int}, l ≠ [] → minL l ∈ l := by
  have key : ∀ (r : List Int) (x : Int), r.foldl min x = x ∨ r.foldl min x ∈ r := by
    intro r
    induction r with
    | nil => intro x; exact .inl rfl
    | cons y r ih =>
      intro x
      rw [List.foldl_cons]
      rcases ih (min x y) with e | e
      · rw [e]
        by_cases q : x ≤ y
        · left; lia  
        · right; have : min x y = y := by lia  
          rw [this]; exact .head _
      · exact .inr (.tail _ e)
  intro l h
  cases l with
  | nil => exact absurd rfl h
  | cons x r =>
    rcases key r x with e | e
    · show r.foldl min x ∈ x :: r
      rw [e]; exact .head _
    · exact .tail _ e
theorem okNext_iff {done : List Nat} {k : Nat} : okNext b done k = true ↔ k ∉ done ∧ (k = 0 ∨ b k ∈ done) := by
  unfold okNext
  rw [Bool.and_eq_true, Bool.or_eq_true, List.contains_iff_mem, Bool.not_eq_true', beq_iff_eq]
  constructor
  · intro ⟨h1, h2⟩
    refine ⟨fun h => ?_, h2⟩
    rw [List.contains_iff_mem.mpr h] at h1; cases h1
  · rintro ⟨h1, h2⟩
    refine ⟨?_, h2⟩
    cases e : done.contains k with
    | false => rfl
    | true => exact absurd (List.contains_iff_mem.mp e) h1
theorem full_end {done : List Nat} (hn : done.Nodup) (h : ∀ k ∈ done, k < 5) (hl : done.length = 5) (f : Nat → Int) : (((List.range 5).filter (okNext b done)).map f) = [] := by
  have e : (List.range 5).filter (okNext b done) = [] := by
    rw [List.filter_eq_nil_iff]
    intro k hk hok
    exact (okNext_iff.mp hok).1 (full5 hn h hl (List.mem_range.mp hk))
  rw [e]; rfl
theorem snoc_nodup {done : List Nat} {k : Nat} (hn : done.Nodup) (h : k ∉ done) : (done ++ [k]).Nodup :=
  List.nodup_append.mpr ⟨hn, by simp, by intro x hx y hy; rw [List.mem_singleton.mp hy]; exact fun e => h (e ▸ hx)⟩
theorem snoc_lt {done : List Nat} {k : Nat} (h : ∀ j ∈ done, j < 5) (hk : k < 5) : ∀ j ∈ done ++ [k], j < 5 := by
  intro x hx
  rcases List.mem_append.mp hx with hx | hx
  · exact h x hx
  · rw [List.mem_singleton.mp hx]; exact hk
theorem least_le (r : List Nat) : ∀ (done : List Nat) (c : Int), done.Nodup → (∀ k ∈ done, k < 5) → done.length + r.length = 5 → FeasAt b done r → leastF d w b (r.length + 1) done c ≤ costF d w c r := by
  induction r with
  | nil =>
    intro done c hn h5 hl _
    show minL _ ≤ 0
    rw [full_end hn h5 (by simpa using hl)]
    exact Int.le_refl _
  | cons k r ih =>
    rintro done c hn h5 hl ⟨a1, a2, a3, a4⟩
    refine Int.le_trans (minL_le (List.mem_map.mpr ⟨k, List.mem_filter.mpr ⟨List.mem_range.mpr a1, okNext_iff.mpr ⟨a2, a3⟩⟩, rfl⟩)) ?_
    have := ih (done ++ [k]) (c + d k) (snoc_nodup hn a2) (snoc_lt h5 a1) (by simp at hl ⊢; lia  ) a4
    rw [costF, List.length_cons]
    lia  
theorem next_ex (hb : ∀ k < 5, k ≠ 0 → b k < k) {done : List Nat} (hl : done.length < 5) : ∃ k < 5, k ∉ done ∧ (k = 0 ∨ b k ∈ done) := by
  have key : ∀ n ≤ 5, (∀ k < n, k ∈ done) ∨ ∃ k < 5, k ∉ done ∧ (k = 0 ∨ b k ∈ done) := by
    intro n
    induction n with
    | zero => exact fun _ => .inl fun k hk => absurd hk (Nat.not_lt_zero _)
    | succ n ih =>
      intro hn
      rcases ih (by lia  ) with h | h
      · by_cases q : n ∈ done
        · exact .inl fun k hk => by
            by_cases e : k = n
            · exact e ▸ q
            · exact h k (by lia  )
        · refine .inr ⟨n, by lia  , q, ?_⟩
          by_cases e : n = 0
          · exact .inl e
          · exact .inr (h _ (hb n (by lia  ) e))
      · exact .inr h
  rcases key 5 (Nat.le_refl _) with h | h
  · have := nodup_sub (List.range 5) done List.nodup_range fun k hk => h k (List.mem_range.mp hk)
    simp at this; lia  
  · exact h
theorem least_at (hb : ∀ k < 5, k ≠ 0 → b k < k) : ∀ (n : Nat) (done : List Nat) (c : Int), done.Nodup → (∀ k ∈ done, k < 5) → done.length + n = 5 → ∃ r, FeasAt b done r ∧ r.length = n ∧ leastF d w b (n + 1) done c = costF d w c r
  | 0, done, c, hn, h5, hl => ⟨[], trivial, rfl, by
    show minL _ = 0
    rw [full_end hn h5 (by simpa using hl)]; rfl⟩
  | n + 1, done, c, hn, h5, hl => by
    obtain ⟨k0, l0, m0, q0⟩ := next_ex (done := done) hb (by lia  )
    have hne : (((List.range 5).filter (okNext b done)).map fun k => w k * (c + d k) + leastF d w b (n + 1) (done ++ [k]) (c + d k)) ≠ [] := fun e => by
      have := List.map_eq_nil_iff.mp e
      rw [List.filter_eq_nil_iff] at this
      exact this k0 (List.mem_range.mpr l0) (okNext_iff.mpr ⟨m0, q0⟩)
    obtain ⟨k, hk, e⟩ := List.mem_map.mp (minL_mem hne)
    obtain ⟨hk1, hk2⟩ := List.mem_filter.mp hk
    obtain ⟨hk3, hk4⟩ := okNext_iff.mp hk2
    have hk5 := List.mem_range.mp hk1
    obtain ⟨r, f, l, q⟩ := least_at hb n (done ++ [k]) (c + d k) (snoc_nodup hn hk3) (snoc_lt h5 hk5) (by simp; lia  )
    refine ⟨k :: r, ⟨hk5, hk3, hk4, f⟩, by simp [l], ?_⟩
    show minL _ = _
    rw [← e, costF, ← q]
/-- the first stage -/
noncomputable def St.start (b : Nat → Nat) : St := ⟨fun k => [k], b, [(1, false), (2, false), (3, false), (4, false)]⟩
theorem start_alive {k : Nat} : (St.start b).alive k ↔ k < 5 := by
  show (k = 0 ∨ k ∈ [1, 2, 3, 4]) ↔ _
  simp; lia  
theorem flat_one (l : List Nat) : l.flatMap (fun k => [k]) = l := by
  induction l with
  | nil => rfl
  | cons a r ih => rw [List.flatMap_cons, ih]; rfl
theorem Good.start (hb : ∀ k < 5, k ≠ 0 → b k < k) : Good d w b (St.start b) where
  nd := by show [1, 2, 3, 4].Nodup; decide
  lt := by show ∀ k ∈ [1, 2, 3, 4], _; decide
  pl := fun k hk => by
    have h : 0 < k ∧ k < 5 := (show ∀ k ∈ [1, 2, 3, 4], 0 < k ∧ k < 5 by decide) k hk
    have := hb k h.2 (by lia  )
    exact ⟨this, start_alive.mpr (show b k < 5 by lia  )⟩
  low := fun π f l => ⟨π, f, fun k => by
    rw [start_alive]
    exact ⟨fun h => fe_lt _ _ f k h, fun h => full5 (fe_nodup _ _ f) (fe_lt _ _ f) l h⟩, by
    show costF d w 0 (π.flatMap fun k => [k]) ≤ _
    rw [flat_one]; exact Int.le_refl _⟩
  fea := fun σ f c => by
    show FeasAt b [] (σ.flatMap fun k => [k]) ∧ (σ.flatMap fun k => [k]).length = 5
    rw [flat_one]
    refine ⟨f, ?_⟩
    have h1 := nodup_le 5 σ (fe_nodup _ _ f) (fe_lt _ _ f)
    have h2 := nodup_sub (List.range 5) σ List.nodup_range fun k hk => (c k).mpr (start_alive.mpr (List.mem_range.mp hk))
    simp at h2; lia  
/-- the last stage: one block, its row the cheapest -/
theorem Good.last {S : St} (G : Good d w b S) (hb : ∀ k < 5, k ≠ 0 → b k < k) (e : S.ps = []) : FeasAt b [] (S.row 0) ∧ (S.row 0).length = 5 ∧ costF d w 0 (S.row 0) = leastF d w b 6 [] 0 := by
  have al : ∀ k, S.alive k ↔ k = 0 := fun k => by unfold St.alive; rw [e]; simp
  have z := G.fea [0] ⟨by decide, by simp, .inl rfl, trivial⟩ (fun k => by rw [al]; simp)
  have e0 : [0].flatMap S.row = S.row 0 := by simp
  rw [e0] at z
  refine ⟨z.1, z.2, ?_⟩
  have h1 := least_le (d := d) (w := w) (S.row 0) [] 0 List.nodup_nil (fun _ h => nomatch h) (by simp [z.2]) z.1
  rw [z.2] at h1
  obtain ⟨π, f, l, q⟩ := least_at (d := d) (w := w) hb 5 [] 0 List.nodup_nil (fun _ h => nomatch h) rfl
  obtain ⟨σ, g1, g2, g3⟩ := G.low π f l
  have eσ : σ = [0] := by
    have hn := fe_nodup _ _ g1
    have h0 : ∀ k ∈ σ, k = 0 := fun k hk => (al k).mp ((g2 k).mp hk)
    have hm : 0 ∈ σ := (g2 0).mpr ((al 0).mpr rfl)
    cases σ with
    | nil => cases hm
    | cons x r =>
      have hx := h0 x (.head _)
      subst hx
      cases r with
      | nil => rfl
      | cons y r => exact absurd (h0 y (.tail _ (.head _))) (fun e => (List.nodup_cons.mp hn).1 (e ▸ .head _))
  rw [eσ, e0] at g3
  rw [show (5 : Nat) + 1 = 6 from rfl] at h1 q
  lia  
/-- the quotients, rounded down, tell which weighs more for its time -/
theorem quot_le {M W W' D D' : Int} (hD : 0 < D) (hD' : 0 < D') (hM : D * D' ≤ M) (h : W' * M / D' ≤ W * M / D) : W' * D ≤ W * D' := by
  rcases Int.lt_or_le (W * D') (W' * D) with q | q
  · exfalso
    have h1 := Int.mul_ediv_add_emod (W * M) D
    have h2 := Int.emod_nonneg (W * M) (show D ≠ 0 by lia  )
    have h4 : W * M / D + 1 ≤ W' * M / D' := by
      rw [Int.le_ediv_iff_mul_le hD']
      have g1 : (W * D' + 1) * M ≤ W' * D * M := Int.mul_le_mul_of_nonneg_right (by lia  ) (by
        have : 0 < D * D' := Int.mul_pos hD hD'
        lia  )
      have g2 : D * (W * M / D) * D' ≤ W * M * D' := Int.mul_le_mul_of_nonneg_right (by lia  ) (by lia  )
      refine Int.le_of_mul_le_mul_right (a := D) ?_ hD
      rw [Int.add_mul, Int.one_mul] at g1
      rw [Int.add_mul, Int.one_mul, Int.add_mul]
      have e1 : W * M / D * D' * D = D * (W * M / D) * D' := by ac_rfl
      have e2 : W * M * D' = W * D' * M := by ac_rfl
      have e3 : W' * M * D = W' * D * M := by ac_rfl
      have e4 : D' * D = D * D' := Int.mul_comm _ _
      rw [e1, e3, e4]
      lia  
    lia  
  · exact q
end
end Mine

end
section -- P19
open PySem PySem.W PyProof.Rows
set_option maxRecDepth 100000
namespace Mine
open PySem.Builtin PySem.Builtin.Str
/-! lists compared -/
theorem strOk_of {x : Str} (h : OkText x) : PyData.strOk x = true := by
  unfold PyData.strOk
  rw [Array.all_eq_true_iff_forall_mem]
  intro c hc
  have := (h c (Array.mem_toList_iff.mpr hc)).2
  exact decide_eq_true (by lia  )
noncomputable def pairD (p : Str × Str) : Dat := .tuple [.str p.1, .str p.2]
theorem PL.dat {n : List (Addr × Obj)} {vs : List Value} {l : List (Str × Str)} (h : PL n vs l) : DatAll n vs (l.map pairD) := by
  induction h with
  | nil => exact .nil
  | cons h _ ih => exact .cons (.tuple h (.cons (.str _ _) (.cons (.str _ _) .nil))) ih
theorem SL.dat {n : List (Addr × Obj)} {vs : List Value} {l : List Str} (h : SL vs l) : DatAll n vs (l.map .str) := by
  induction h with
  | nil => exact .nil
  | cons _ ih => exact .cons (.str _ _) ih
theorem OkP.dat {l : List (Str × Str)} (h : OkP l) : ∀ d ∈ l.map pairD, kqdOk 8 d = true := by
  intro d hd
  obtain ⟨p, hp, rfl⟩ := List.mem_map.mp hd
  have := h p hp
  simp [pairD, kqdOk, strOk_of this.1.1, strOk_of this.2.1]
section
variable {prog : Program} {w : World} {A : Around} {E : Value → Shared → Prop} {s : Shared} {h₀ : Heap} {L : Addr} {m : Str → Option Value} {news : List (Addr × Obj)} {Q : Value → Shared → Prop}
open Classical in
theorem ne_same {a b : Addr} {xs ys : List Value} {ka kb : Nat} {ds : List Dat} (N : News h₀ L s.heap news) (ma : (a, lstO xs ka) ∈ news) (Da : DatAll news xs ds) (mb : (b, lstO ys kb) ∈ news) (Db : DatAll news ys ds)
    (hok : ∀ d ∈ ds, kqdOk 8 d = true) (hu : A.units + 64 < cLine) (h : Q (.bool false) s) : wpAny (model prog w) A (compareOp .NotEq (.ref a) (.ref b)) Q E s :=
  kqd_ne N ma rfl rfl Da (fun _ h => h) mb rfl rfl Db (fun _ h => h) hok hok hu (by rw [decide_eq_true rfl]; exact h)
theorem ne_PL {a b : Addr} {xs ys : List Value} {ka kb : Nat} {l : List (Str × Str)} (N : News h₀ L s.heap news) (ma : (a, lstO xs ka) ∈ news) (Da : PL news xs l) (mb : (b, lstO ys kb) ∈ news) (Db : PL news ys l)
    (hok : OkP l) (hu : A.units + 64 < cLine) (h : Q (.bool false) s) : wpAny (model prog w) A (compareOp .NotEq (.ref a) (.ref b)) Q E s :=
  ne_same N ma Da.dat mb Db.dat hok.dat hu h
/-- the two texts of a header -/
theorem split_hdr {z y j : Nat} {t u : Tok} (hz : z < 20) (hy : y < 20) (hj : j < 3) (F : Fr h₀ L s.heap m) (N : News h₀ L s.heap news)
    (h : ∀ D t1 t2 h' k, Fr h₀ L h' m → News h₀ L h' ((D, lstO [.str (numS z j) t1, .str (numS y j) t2] 0) :: news) → (∀ p ∈ news, p.1 < D) → Q (.ref D) { s with heap := h', toks := k }) :
    wpAny (model prog w) A (call (.builtin "str.split") [.str (Txt.slice (bodyT (numS z j) (numS y j)) none (some (-1))) t, .str sepT u]) Q E s := by
  rw [body_cut]
  have l1 := numS_len z hz j hj
  have l2 := numS_len y hy j hj
  refine KSpl.split1 F N (by decide) (fun D l h' k e _ F' N' l1 => ?_) (by rw [Str.length_append, Str.length_append, show sepT.length = 12 from rfl, sizeLine_eq]; lia  )
  rw [hdr_split hz hy hj] at e
  obtain ⟨t1, r1, rfl, e1⟩ := KSpl.cons_of e
  obtain ⟨t2, r2, rfl, e2⟩ := KSpl.cons_of e1
  have := KSpl.nil_of e2
  subst this
  exact h D t1 t2 h' k F' N' l1
end
/-! a numeral's text, as int_from_string takes it -/
structure Numeral (x : Str) (n : Nat) : Prop where
  s1 : x.length ≤ sizeLine
  s2 : (Txt.rstrip x).length ≤ 5000
  hx : (Txt.replace (Txt.rstrip x) (Str.ofString "_") (Str.ofString "")).length ≤ 2000
  ha : NumText.AllDigits (Txt.replace (Txt.rstrip x) (Str.ofString "_") (Str.ofString "")).cps.toList
  hne : (Txt.replace (Txt.rstrip x) (Str.ofString "_") (Str.ofString "")).cps.toList ≠ []
  val : NumText.digitsVal (Txt.replace (Txt.rstrip x) (Str.ofString "_") (Str.ofString "")).cps.toList = n
theorem allDigits_dec {l : List Nat} (h : l.all (fun c => decide (48 ≤ c) && decide (c ≤ 57)) = true) : NumText.AllDigits l := fun c hc => by
  have := List.all_eq_true.mp h c hc
  simpa using this
theorem numS_strip_len : ∀ z < 20, ∀ j < 3, (Txt.rstrip (numS z j)).length ≤ 5000 := by decide +kernel
theorem dig_len : ∀ z < 20, (dig z).length ≤ 2000 := by decide +kernel
theorem dig_ne : ∀ z < 20, (dig z).cps.toList.isEmpty = false := by decide +kernel
theorem numeral {z j : Nat} (hz : z < 20) (hj : j < 3) : Numeral (numS z j) z := by
  have e := num_strip z hz j hj
  refine ⟨by have := numS_len z hz j hj; rw [sizeLine_eq]; lia  , numS_strip_len z hz j hj, ?_, ?_, ?_, ?_⟩ <;> rw [e]
  · exact dig_len z hz
  · exact allDigits_dec (dig_all z hz)
  · intro h; have := dig_ne z hz; rw [h] at this; cases this
  · exact dig_val z hz
theorem flat_len (k : Nat) : ((List.replicate k [48, 95]).flatten).length = 2 * k := by
  induction k with
  | zero => rfl
  | succ k ih => rw [List.replicate_succ, List.flatten_cons, List.length_append, ih]; show 2 + 2 * k = _; lia  
theorem len_1100 : (Txt.mul (Str.ofString "0_") 1100).length = 2200 := by rw [← len_toList, mul_1100, flat_len]
theorem len_1200 : (Txt.mul (Str.ofString " ") 1200).length = 1200 := by rw [← len_toList, mul_1200, List.length_replicate]
theorem numeralL {y : Nat} (hy : y < 20) : Numeral (longS y) y := by
  have e := long_repl hy
  have l1 : (longS y).length ≤ 5000 := by
    have := numS_len y hy 0 (by decide)
    unfold longS
    rw [Str.length_append, Str.length_append, len_1100, len_1200]; lia  
  have l2 : (Txt.rstrip (longS y)).length ≤ 5000 := by
    have := numS_len y hy 0 (by decide)
    rw [long_strip hy, ← len_toList]
    show ((List.replicate 1100 [48, 95]).flatten ++ (numS y 0).cps.toList).length ≤ 5000
    rw [List.length_append, len_toList]
    have := flat_len 1100
    lia  
  have l3 : (dig y).length ≤ 19 := (show ∀ z < 20, (dig z).length ≤ 19 by decide +kernel) y hy
  refine ⟨by rw [sizeLine_eq]; lia  , l2, ?_, ?_, ?_, ?_⟩ <;> rw [e]
  · rw [← len_toList]
    show (List.replicate 1100 48 ++ (dig y).cps.toList).length ≤ 2000
    rw [List.length_append, len_toList, List.length_replicate]; lia  
  · exact allDigits_dec (long_all y hy)
  · show List.replicate 1100 48 ++ (dig y).cps.toList ≠ []
    intro h
    have := (List.append_eq_nil_iff.mp h).1
    rw [List.replicate_succ] at this; cases this
  · exact long_val y hy
theorem mok_1100 : MulOk (Str.ofString "0_") 1100 := ⟨by decide, by decide, by decide⟩
theorem mok_1200 : MulOk (Str.ofString " ") 1200 := ⟨by decide, by decide, by decide⟩
theorem add_long1 {y : Nat} (hy : y < 20) {j : Nat} (hj : j < 3) : AddOk (Txt.mul (Str.ofString "0_") 1100) (numS y j) := by
  have := numS_len y hy j hj
  unfold AddOk; rw [len_1100, sizeLine_eq]; lia  
theorem add_long2 {y : Nat} (hy : y < 20) {j : Nat} (hj : j < 3) : AddOk (Txt.mul (Str.ofString "0_") 1100 ++ numS y j) (Txt.mul (Str.ofString " ") 1200) := by
  have := numS_len y hy j hj
  unfold AddOk; rw [Str.length_append, len_1100, len_1200, sizeLine_eq]; lia  
section
variable {w : World} {p : Program} {loose : List Str} {mean : ExcName → Option Value} {mg mb : Str → Option Value} {dp un : Nat} {gd : Option (List Code)} {cn : Str} {cs : Scope} {a : Addr} {ccd : Value} {cl : List (Str × Addr)} {outer : List Env} {A₀ : Around} {base h₀ : Heap} {L : Addr} {m : Str → Option Value} {news : List (Addr × Obj)} {s : Shared} {Q E : Value → Shared → Prop}
theorem from_numeral_c {ps : Array Value} (B : Below A₀ base outer h₀) (F : Fr h₀ L s.heap m) (X : (hd.heap_1 w.params).In h₀) (N : News h₀ L s.heap ((90, tabObj ps) :: news)) (tb : TB ps news) (T : Top p loose mean mg mb h₀) (hk : cs.kind = .function) (hd : dp + 15 < recursionLimit) (hu : un + 120 < cLine)
  (C : CodeHd base 94 90) (h90 : ∀ p ∈ news, p.1 ≠ 90) {x : Str} {tx : Tok} {n : Nat} (nx : Numeral x n)
  (ret : ∀ t h' tk' dr ps' n', (∀ p ∈ news, p ∈ n') → (∀ p ∈ n', p.1 ≠ 90) → Fr h₀ L h' m → News h₀ L h' ((90, tabObj ps') :: n') → TB ps' n' → Keep ps news ps' n' → Q (.int (n : Int) t) {s with heap := h', toks := tk', drawn := dr}) :
  wpAny (model PySem.Challenge.rw_wy0045_01.row.prog w) (ktrTop dp un gd cn cs L a ccd cl outer) (call (.ref 102) [.str x tx]) Q E s :=
  from_string_c B F X N tb T hk hd hu C h90 rfl nx.s1 rfl nx.s2 nx.hx nx.ha nx.hne (nx.val.symm ▸ ret)
end
/-! what a block tells of its row -/
noncomputable def BlkAt (w : World) (n : List (Addr × Obj)) (d wt : Nat → Int) (row : List Nat) (v : Value) : Prop :=
  ∃ T D o kD t1 t2 t3 t4, v = .ref T ∧ (T, tupO [.int (row.length : Int) t1, .int (durL d row) t2, .int (durL wt row) t3, .int (costF d wt 0 row) t4, .ref D]) ∈ n ∧ (D, o) ∈ n ∧ (D == sysModules) = false ∧ o.IsDictOf (KD w) kD ∧ CV kD (untilF d 0 row)
theorem BlkAt.mono {w : World} {n n' : List (Addr × Obj)} {d wt : Nat → Int} {row : List Nat} {v : Value} (h : BlkAt w n d wt row v) (k : ∀ p ∈ n, p ∈ n') : BlkAt w n' d wt row v :=
  h.imp fun _ => Exists.imp fun _ => Exists.imp fun _ => Exists.imp fun _ => Exists.imp fun _ => Exists.imp fun _ => Exists.imp fun _ => Exists.imp fun _ => And.imp id (And.imp (k _) (And.imp_left (k _)))
/-- the table of the first i jobs -/
noncomputable def TabK (kB : List (Str × Value)) (i : Nat) (P : Nat → Value → Prop) : Prop := kB.map (·.1) = (List.range i).map letter ∧ ∀ k < i, ∃ v, valueAt kB (letter k) = some v ∧ P k v
theorem TabK.nil {P : Nat → Value → Prop} : TabK [] 0 P := ⟨rfl, fun _ h => absurd h (Nat.not_lt_zero _)⟩
theorem TabK.mono {kB : List (Str × Value)} {i : Nat} {P P' : Nat → Value → Prop} (h : TabK kB i P) (k : ∀ j < i, ∀ v, P j v → P' j v) : TabK kB i P' :=
  ⟨h.1, fun j hj => let ⟨v, e, p⟩ := h.2 j hj; ⟨v, e, k j hj v p⟩⟩
theorem TabK.len {kB : List (Str × Value)} {i : Nat} {P : Nat → Value → Prop} (h : TabK kB i P) : kB.length = i := by
  have := congrArg List.length h.1
  simpa using this
theorem valueAt_self {kB : List (Str × Value)} {k : Str} {v : Value} : valueAt (stored kB k v) k = some v := by
  unfold valueAt stored
  split
  · rename_i h
    obtain ⟨p, hp, e⟩ := List.any_eq_true.mp h
    induction kB with
    | nil => cases hp
    | cons q r ih =>
      rw [List.map_cons, List.find?_cons]
      by_cases e1 : q.1 = k
      · rw [if_pos e1]; simp [e1]
      · rw [if_neg e1, decide_eq_false e1]
        rcases List.mem_cons.mp hp with rfl | hp
        · exact absurd (by simpa using e) e1
        · exact ih (List.any_eq_true.mpr ⟨p, hp, e⟩) hp
  · rename_i h
    have hn : (kB.find? fun kv => kv.1 = k) = none := by
      rw [List.find?_eq_none]
      intro p hp e
      exact h (List.any_eq_true.mpr ⟨p, hp, e⟩)
    rw [List.find?_append, hn]; simp
theorem valueAt_other {kB : List (Str × Value)} {k k' : Str} {v : Value} (h : k' ≠ k) : valueAt (stored kB k v) k' = valueAt kB k' := by
  unfold valueAt stored
  split
  · rename_i h1; clear h1
    induction kB with
    | nil => rfl
    | cons q r ih =>
      rw [List.map_cons, List.find?_cons, List.find?_cons]
      by_cases e1 : q.1 = k
      · rw [if_pos e1]
        have : (decide (q.1 = k')) = false := decide_eq_false (by rw [e1]; exact h.symm)
        simp only [this]; exact ih
      · rw [if_neg e1]
        cases e2 : decide (q.1 = k') with
        | true => rfl
        | false => exact ih
  · rw [List.find?_append]
    have : ([(k, v)] : List (Str × Value)).find? (fun kv => kv.1 = k') = none := by simp [h.symm]
    rw [this, Option.or_none]
theorem TabK.snoc {kB : List (Str × Value)} {i : Nat} {P P' : Nat → Value → Prop} {v : Value} (h : TabK kB i P) (k : ∀ j < i, ∀ v, P j v → P' j v) (hv : P' i v) : TabK (stored kB (letter i) v) (i + 1) P' := by
  have hn : letter i ∉ kB.map (·.1) := by
    rw [h.1]
    intro hm
    obtain ⟨j, hj, e⟩ := List.mem_map.mp hm
    have := letter_inj e
    have := List.mem_range.mp hj
    lia  
  have hs : stored kB (letter i) v = kB ++ [(letter i, v)] := by
    unfold stored
    rw [if_neg]
    intro hq
    obtain ⟨p, hp, e⟩ := List.any_eq_true.mp hq
    exact hn (List.mem_map.mpr ⟨p, hp, by simpa using e⟩)
  refine ⟨by rw [hs, List.map_append, h.1, List.range_succ, List.map_append]; rfl, fun j hj => ?_⟩
  by_cases e : j = i
  · subst e; exact ⟨v, valueAt_self, hv⟩
  · obtain ⟨v', e1, e2⟩ := h.2 j (by lia  )
    exact ⟨v', by rw [valueAt_other (fun q => e (letter_inj q))]; exact e1, k j (by lia  ) v' e2⟩
theorem stored_keys {kB : List (Str × Value)} {k : Str} {v : Value} (h : k ∈ kB.map (·.1)) : (stored kB k v).map (·.1) = kB.map (·.1) := by
  unfold stored
  rw [if_pos]
  · rw [List.map_map]
    refine List.map_congr_left fun q _ => ?_
    show (if q.1 = k then (q.1, v) else q).1 = q.1
    split <;> rfl
  · obtain ⟨p, hp, e⟩ := List.mem_map.mp h
    exact List.any_eq_true.mpr ⟨p, hp, by simpa using e⟩
theorem TabK.put {kB : List (Str × Value)} {i : Nat} {P P' : Nat → Value → Prop} {v : Value} {q : Nat} (h : TabK kB i P) (hq : q < i) (k : ∀ j < i, j ≠ q → ∀ v, P j v → P' j v) (hv : P' q v) : TabK (stored kB (letter q) v) i P' := by
  refine ⟨by rw [stored_keys, h.1]; rw [h.1]; exact List.mem_map_of_mem (List.mem_range.mpr hq), fun j hj => ?_⟩
  by_cases e : j = q
  · subst e; exact ⟨v, valueAt_self, hv⟩
  · obtain ⟨v', e1, e2⟩ := h.2 j hj
    exact ⟨v', by rw [valueAt_other (fun q => e (letter_inj q))]; exact e1, k j hj e v' e2⟩
theorem hdrs_ok {d wt : Nat → Int} (bd : ∀ k < 5, 1 ≤ d k ∧ d k ≤ 7) (bw : ∀ k < 5, 0 ≤ wt k ∧ wt k ≤ 19) : OkP (hdrs d wt 5) := by
  intro p hp
  obtain ⟨k, hk, rfl⟩ := List.mem_map.mp hp
  have hk := List.mem_range.mp hk
  have b1 := bd k hk
  have b2 := bw k hk
  have e3 : k % 3 < 3 := Nat.mod_lt _ (by decide)
  exact ⟨okS_letter hk, okS_body (okS_num (by lia  ) e3) (okS_num (by lia  ) e3) (numS_len _ (by lia  ) _ e3) (numS_len _ (by lia  ) _ e3)⟩
theorem low_up (i k : Nat) (hi : i < 5) (hk : k < 5) : (Txt.lower (letter k) == Txt.lower (upper i)) = decide (k = i) := by
  rw [lower_letter k hk, lower_upper i hi, letter_beq]
theorem hdrs_find {d wt : Nat → Int} {i : Nat} (hi : i < 5) : (hdrs d wt 5).find? (fun p => Txt.lower p.1 == Txt.lower (upper i)) = some (hdr1 d wt i) := by
  have key : ∀ n, n ≤ 5 → i < n → (hdrs d wt n).find? (fun p => Txt.lower p.1 == Txt.lower (upper i)) = some (hdr1 d wt i) := by
    intro n
    induction n with
    | zero => intro _ h; exact absurd h (Nat.not_lt_zero _)
    | succ n ih =>
      intro hn h
      rw [hdrs_succ, List.find?_append]
      by_cases e : i = n
      · subst e
        have e0 : (hdrs d wt i).find? (fun p => Txt.lower p.1 == Txt.lower (upper i)) = none := by
          rw [List.find?_eq_none]
          intro p hp
          obtain ⟨k, hk, rfl⟩ := List.mem_map.mp hp
          have hk := List.mem_range.mp hk
          show ¬ ((Txt.lower (letter k) == Txt.lower (upper i)) = true)
          rw [low_up i k hi (by lia  ), decide_eq_true_eq]; lia  
        rw [e0]
        simp only [Option.none_or, List.find?_cons]
        have : (Txt.lower (hdr1 d wt i).1 == Txt.lower (upper i)) = true := by
          show (Txt.lower (letter i) == Txt.lower (upper i)) = true
          rw [low_up i i hi hi]; simp
        rw [this]
      · rw [ih (by lia  ) (by lia  )]; rfl
  exact key 5 (Nat.le_refl _) hi
end Mine

end
section -- P20
open PySem PySem.W PyProof.Rows
set_option maxRecDepth 100000
namespace Mine
section
variable {M : Model} {A : Around} {E : Value → Shared → Prop} {s : Shared} {h₀ : Heap} {L : Addr} {m : Str → Option Value} {env : Env}
/-- a name of the frame is stored -/
theorem assign_local {y : Str} {py : Pos} {v : Value} {n : List (Addr × Obj)} {Q : Unit → Shared → Prop} (F : Fr h₀ L s.heap m) (N : News h₀ L s.heap n) (hL : env.locals = L) (hy : env.kindOf y = some .local)
    (hp : (env.scope.kind == .class || (env.scope.kind == .module && env.locals != env.globals)) = false)
    (k : ∀ h', Fr h₀ L h' (fun z => if z = y then some v else m z) → News h₀ L h' n → Q () { s with heap := h', toks := s.toks + 1 }) : wpAny M A (assign (.Name y py) env v) Q E s := by
  subst hL
  refine wpAny_assign_Name (wpAny_storeName_local hy F.ns (fun h₂ hn₂ hs₂ => ?_) hp)
  have hL₀ : h₀.get? env.locals = none := Heap.get?_none_of_le F.above
  exact k h₂ ⟨hn₂, fun b o e => hs₂.extBut b o (fun q => by rw [q, hL₀] at e; cases e) (F.keep b o e), F.above⟩ fun p hp => ⟨hs₂.extBut _ _ (N p hp).2.1 (N p hp).1, (N p hp).2⟩
end
theorem News.pull {h₀ h : Heap} {L : Addr} {x : Addr} {o : Obj} {n : List (Addr × Obj)} (N : News h₀ L h n) (hx : (x, o) ∈ n) : News h₀ L h ((x, o) :: n.filter fun p => p.1 != x) := fun p hp => by
  rcases List.mem_cons.mp hp with rfl | hp
  · exact N _ hx
  · exact N p (List.mem_filter.mp hp).1
theorem pull_off {x : Addr} {n : List (Addr × Obj)} : ∀ p ∈ n.filter (fun p => p.1 != x), p.1 ≠ x := fun p hp => by
  have := (List.mem_filter.mp hp).2
  simpa using this
theorem pull_mem {x : Addr} {n : List (Addr × Obj)} {p : Addr × Obj} (hp : p ∈ n) (h : p.1 ≠ x) : p ∈ n.filter (fun p => p.1 != x) := List.mem_filter.mpr ⟨hp, by simpa using h⟩
theorem pull_sub {x : Addr} {n n' : List (Addr × Obj)} (hs : ∀ p ∈ n, p ∈ n') (h : ∀ p ∈ n, p.1 ≠ x) : ∀ p ∈ n, p ∈ n'.filter (fun p => p.1 != x) := fun p hp => pull_mem (hs p hp) (h p hp)
theorem PL.pull {h₀ h : Heap} {L : Addr} {x : Addr} {o : Obj} {n : List (Addr × Obj)} (N : News h₀ L h n) (hx : (x, o) ∈ n) (hc : o.cls ≠ .type "tuple") {vs : List Value} {l : List (Str × Str)} (H : PL n vs l) : PL (n.filter fun p => p.1 != x) vs l := by
  induction H with
  | nil => exact .nil
  | @cons t k v tk tv r l hm _ ih =>
    refine .cons (pull_mem hm fun e => ?_) ih
    have e' : t = x := e
    subst e'
    have h1 := (N _ hm).1
    have h2 := (N _ hx).1
    rw [h1] at h2
    have h3 : tupO [.str k tk, .str v tv] = o := Option.some.inj h2
    exact hc (by rw [← h3])
theorem TB.mono {ps : Array Value} {n n' : List (Addr × Obj)} (h : TB ps n) (k : ∀ p ∈ n, p ∈ n') : TB ps n' := by
  rcases h with rfl | ⟨c', oc, vs, t, e, m1, r⟩
  · exact .inl rfl
  · exact .inr ⟨c', oc, vs, t, e, k _ m1, r⟩
theorem letter_at {i c : Nat} (h : (Str.ofString "abcde").cps[i]? = some c) : i < 5 ∧ c = 97 + i := by
  rcases Nat.lt_or_ge i 5 with q | q
  · refine ⟨q, ?_⟩
    have := lt5 (P := fun i => (Str.ofString "abcde").cps[i]? = some (97 + i)) rfl rfl rfl rfl rfl i q
    exact Option.some.inj (h.symm.trans this)
  · rw [Array.getElem?_eq_none q] at h; exact nomatch h
theorem call_upper {prog : Program} {w : World} {A : Around} {E : Value → Shared → Prop} {s : Shared} {Q : Value → Shared → Prop} {x : Str} {t : Tok} (hx : x.length ≤ 5592405) (h : Q (.str (Txt.upper x) s.toks) { s with toks := s.toks + 1 }) : wpAny (model prog w) A (call (.builtin "str.upper") [.str x t]) Q E s :=
  SCL.upper hx fun _ => h
theorem long_is {y j : Nat} (h : j = 0) : Txt.mul (Str.ofString "0_") 1100 ++ numS y j ++ Txt.mul (Str.ofString " ") 1200 = longS y := by subst h; rfl
section
variable {prog : Program} {w : World} {A : Around} {E : Value → Shared → Prop} {s : Shared} {h₀ : Heap} {L : Addr}
/-- the second item of a list of the ledger -/
theorem sub_list1 {value slice : PySem.Expr} {l : Addr} {x y : Value} {vs : List Value} {ep : Nat} {news : List (Addr × Obj)} {u : Tok} {Q : Value → Shared → Prop} (N : News h₀ L s.heap news) (hm : (l, lstO (x :: y :: vs) ep) ∈ news) (h : Q y s)
    (hs : subscripted slice false (.ref l) (.int 1 u) = operate [.ref l, .int 1 u] (getItem (.ref l) (.int 1 u)) := by with_unfolding_all rfl) :
    wpAny (model prog w) A (subscriptTail value slice (.ref l) (.int 1 u)) Q E s := by
  have hl : s.heap.IsList l (x :: y :: vs).toArray := News.isList N hm
  exact tail_any hl.typeIs PySem.slot_list_getitem.lookup (wpAny_getItem_list hl (by lia  ) (by lia  ) (by rfl) h) hs
end
theorem blk_one {w : World} {n : List (Addr × Obj)} {d wt : Nat → Int} {i : Nat} {T D : Addr} {o : Obj} {t1 t2 t3 t4 t5 : Tok} (mT : (T, tupO [.int 1 t1, .int (d i) t2, .int (wt i) t3, .int (d i * wt i) t4, .ref D]) ∈ n) (mD : (D, o) ∈ n) (lo : (D == sysModules) = false)
    (hd : o.IsDictOf (KD w) [(letter i, .int (d i) t5)]) : BlkAt w n d wt [i] (.ref T) := by
  refine ⟨T, D, o, [(letter i, .int (d i) t5)], t1, t2, t3, t4, rfl, ?_, mD, lo, hd, ?_⟩
  · have e1 : durL d [i] = d i := by simp [durL]
    have e2 : durL wt [i] = wt i := by simp [durL]
    have e3 : costF d wt 0 [i] = d i * wt i := by simp [costF, Int.mul_comm]
    rw [e1, e2, e3]; exact mT
  · have e : untilF d 0 [i] = [(letter i, d i)] := by simp [untilF]
    rw [e]; exact .cons .nil
end Mine

end
section -- P21
open PySem PySem.W PyProof.Rows
set_option maxRecDepth 100000
namespace Mine
section
variable {prog : Program} {w : World} {K : Type} [DecidableEq K] {knd : KeyKind prog w K} {A : Around} {E : Value → Shared → Prop} {env : Env}
/-- a comprehension that makes a dict, walked; the dict stands at the next free place -/
theorem dict_made {kx vx iter : Expr} {x : Str} {px : Pos} {scope : Scope} {cl : List (Str × Addr)} {pos : Pos} {s₂ : Shared} {I : Addr} {fp wr : List Addr} {n : Nat} {P : Nat → Value → Prop}
    {St : Nat → Heap → Prop} (W : Walks prog w A I fp wr n P St) (hsz : n ≤ sizeLine) (FK : Value → K → Prop) (FV : Value → Value → Prop) {RR : Value → Addr → Result → Shared → Prop}
    (hcell : ∀ y ∈ scope.names, y.2 ≠ .cell) (hkind : scope.kind = .function) (hx : scope.names.lookup x = some .local) (hst : St 0 s₂.heap) (hfp : ∀ b ∈ fp, b < s₂.heap.objs.size)
    (hkey : ∀ C i v s₃ m₃ E', P i v → s₃.heap.Ns C m₃ → m₃ x = some v → (∀ b o, b ∉ wr → s₂.heap.get? b = some o → s₃.heap.get? b = some o) →
      wpAny (model prog w) A (eval kx (compEnvC scope cl C env)) (fun key s₄ => (∃ k, knd.is k key = true ∧ FK v k) ∧ Keeps s₃ s₄) E' s₃)
    (hval : ∀ C i v s₃ m₃ E', P i v → s₃.heap.Ns C m₃ → m₃ x = some v → (∀ b o, b ∉ wr → s₂.heap.get? b = some o → s₃.heap.get? b = some o) →
      wpAny (model prog w) A (eval vx (compEnvC scope cl C env)) (fun y s₄ => FV v y ∧ Keeps s₃ s₄) E' s₃)
    (hRR : ∀ (D : Addr) C h' tk m' kvs (vs : List Value), D = s₂.heap.objs.size → s₂.heap.get? C = none → D ≠ C → h'.Ns C m' → h'.DictOf knd D kvs → vs.length = n → (∀ j v, vs[j]? = some v → P j v) → StoredAll FK FV vs kvs →
      (∀ b o, b ∉ wr → s₂.heap.get? b = some o → h'.get? b = some o) → RR (.ref D) C (.ok .next) { s₂ with heap := h', toks := tk }) :
    wpAny (model prog w) A newDict (fun acc s₃ => wpAny (model prog w) A (newFunctionEnv scope env.globals cl [] env.qual none .none (some env)) (fun cenv s₄ =>
      codeAny (model prog w) A (.compStart (.DictComp kx vx [⟨.Name x px, iter, [], 0⟩] scope pos) 0 (.ref I) acc { cenv with scope := relabel scope env }) (RR acc cenv.locals) s₄) E s₃) E s₂ := by
  refine wpAny_newObj_type (wpAny_newFunctionEnv hcell (fun y hy => nomatch hy) (fun h₁ n₁ b₁ => ?_) hkind)
  dsimp only at n₁ b₁ ⊢
  have d0 : (s₂.heap.push { cls := .type "dict", dict := none, data := .dict #[] }).DictOf knd s₂.heap.objs.size [] := Heap.DictOf.new s₂.heap
  have up : ∀ b o, s₂.heap.get? b = some o → (s₂.heap.push { cls := .type "dict", dict := none, data := .dict #[] }).get? b = some o := fun b o e => Heap.get?_push_of_some _ e
  have sz : (s₂.heap.push { cls := .type "dict", dict := none, data := .dict #[] }).objs.size = s₂.heap.objs.size + 1 := Heap.size_push ..
  generalize s₂.heap.push { cls := .type "dict", dict := none, data := .dict #[] } = H at *
  have hDC : s₂.heap.objs.size ≠ H.objs.size := by rw [sz]; exact Nat.ne_of_lt (Nat.lt_succ_self _)
  have old : ∀ b o, s₂.heap.get? b = some o → h₁.get? b = some o := fun b o e => b₁.extBut b o (by rw [sz]; exact Nat.ne_of_lt (Nat.lt_succ_of_lt (Heap.lt_size e))) (Heap.get?_push_of_some _ (up b o e))
  have d1 : h₁.DictOf knd s₂.heap.objs.size [] := d0.at fun o e => b₁.extBut _ _ hDC (Heap.get?_push_of_some _ e)
  have hC : s₂.heap.get? H.objs.size = none := by
    cases e : s₂.heap.get? H.objs.size with
    | none => rfl
    | some o => exact absurd (Heap.lt_size e) (by rw [sz]; exact Nat.not_lt.mpr (Nat.le_succ _))
  have off : ∀ b o, s₂.heap.get? b = some o → b ≠ H.objs.size ∧ b ≠ s₂.heap.objs.size := fun b o e => by have hlt := Heap.lt_size e; rw [sz]; exact ⟨Nat.ne_of_lt (Nat.lt_succ_of_lt hlt), Nat.ne_of_lt hlt⟩
  have walk : ∀ s₃ : Shared, s₃ = { s₂ with heap := h₁, toks := s₂.toks + ([] : List (Str × Value)).length } →
      codeAny (model prog w) A (.compLoop (.DictComp kx vx [⟨.Name x px, iter, [], 0⟩] scope pos) 0 (.ref I) (.ref s₂.heap.objs.size) (compEnvC scope cl H.objs.size env)) (RR (.ref s₂.heap.objs.size) H.objs.size) s₃ := by
    rintro s₃ rfl
    refine codeAny_compLoop_walkD (hsz := hsz) (knd := knd) (cenv := compEnvC scope cl H.objs.size env) W (fun _ => true) FK FV (lookup_relabel_local hx) (by simp [compEnvC, relabel, hkind]) hDC
      (fun hm => Nat.lt_irrefl _ (hfp _ hm)) (fun hm => by have hlt : H.objs.size < s₂.heap.objs.size := hfp _ hm; rw [sz] at hlt; exact Nat.lt_irrefl _ (Nat.lt_of_succ_lt hlt)) (W.frame _ _ _ hst fun b _ o e => old b o e) d1 n₁
      (fun i v s₃ m₃ _ _ _ _ => wpAny_pure ⟨rfl, s₃.heap, s₃.toks, rfl, fun _ _ e => e⟩)
      (fun i v s₃ m₃ hv _ hn hm hk => hkey _ i v s₃ m₃ _ hv hn hm fun b o hb e => hk b o (off b o e).1 hb (off b o e).2 (old b o e))
      (fun i v s₃ m₃ hv _ hn hm hk => hval _ i v s₃ m₃ _ hv hn hm fun b o hb e => hk b o (off b o e).1 hb (off b o e).2 (old b o e)) fun h' tk m' kvs vs hn ha hl hP hF hk => ?_
    rw [List.filter_eq_self.mpr (fun _ _ => rfl)] at hF
    exact hRR _ _ h' tk m' kvs vs rfl hC hDC hn ha hl hP hF fun b o hb e => hk b o (off b o e).1 hb (off b o e).2 (old b o e)
  exact codeAny_compStart_dict (walk _ rfl) (W.self 0 _ _ _ (W.frame _ _ _ hst fun b _ o e => old b o e) (walk _ rfl))
end
theorem stored_pairs {FK : Value → Str → Prop} {FV : Value → Value → Prop} {vs : List Value} {kvs : List (Str × Value)} (h : StoredAll FK FV vs kvs) (hFK : ∀ v k, FK v k → ∃ t, v = Value.str k t) :
    ∀ {ks : List Str}, vs.length = ks.length → (∀ (j : Nat) (v : Value), vs[j]? = some v → ∃ k t, ks[j]? = some k ∧ v = Value.str k t) → ks.Nodup → kvs.map (·.1) = ks ∧ ∀ p ∈ kvs, ∃ v, FK v p.1 ∧ FV v p.2 := by
  induction h with
  | nil =>
    intro ks hl _ _
    have : ks = [] := List.eq_nil_of_length_eq_zero hl.symm
    subst this
    exact ⟨rfl, fun _ hp => nomatch hp⟩
  | @snoc l kvs v k y hr fk fv ih =>
    intro ks hl hv hn
    obtain ⟨ks', k', rfl⟩ : ∃ ks' k', ks = ks' ++ [k'] := by
      have : ks ≠ [] := by intro e; subst e; simp at hl
      exact ⟨ks.dropLast, ks.getLast this, (List.dropLast_concat_getLast this).symm⟩
    have hl' : l.length = ks'.length := by simpa using hl
    obtain ⟨hn1, _, hn3⟩ := List.nodup_append.mp hn
    obtain ⟨i1, i2⟩ := ih hl' (fun j v hj => by
      have hlt : j < l.length := (List.getElem?_eq_some_iff.mp hj).1
      obtain ⟨k, t, e1, e2⟩ := hv j v (by rw [List.getElem?_append_left hlt]; exact hj)
      rw [List.getElem?_append_left (by lia  )] at e1
      exact ⟨k, t, e1, e2⟩) hn1
    obtain ⟨k2, t2, e1, e2⟩ := hv l.length v (by simp)
    rw [hl'] at e1
    have e1' : k' = k2 := by simpa using e1
    subst e1'
    obtain ⟨t3, e3⟩ := hFK v k fk
    have ek : k' = k := by rw [e2] at e3; injection e3
    subst ek
    have hnew : k' ∉ kvs.map (·.1) := by rw [i1]; exact fun hm => hn3 k' hm k' (.head _) rfl
    have hs : stored kvs k' y = kvs ++ [(k', y)] := by
      unfold stored
      rw [if_neg]
      intro hq
      obtain ⟨p, hp, e⟩ := List.any_eq_true.mp hq
      exact hnew (List.mem_map.mpr ⟨p, hp, by simpa using e⟩)
    rw [hs]
    refine ⟨by rw [List.map_append, i1]; rfl, fun p hp => ?_⟩
    rcases List.mem_append.mp hp with hp | hp
    · exact i2 p hp
    · rw [List.mem_singleton.mp hp]; exact ⟨v, fk, fv⟩
section
variable {prog : Program} {w : World} {A : Around} {E : Value → Shared → Prop} {s : Shared} {h₀ : Heap} {L : Addr} {m : Str → Option Value} {env : Env} {iter : Expr} {scope : Scope} {cl : List (Str × Addr)} {pos spos : Pos}
/-- the item's own name, read within a comprehension -/
theorem item_name {M : Model} {A : Around} {E : Value → Shared → Prop} {s : Shared} {env : Env} {scope : Scope} {cl : List (Str × Addr)} {C : Addr} {x : Str} {px : Pos} {m₃ : Str → Option Value} {v : Value} {Q : Value → Shared → Prop} (hkind : scope.kind = .function) (hx : scope.names.lookup x = some .local) (hn : s.heap.Ns C m₃) (hv : m₃ x = some v) (h : Q v s)
    (hb : (x == ("__debug__" : Str)) = false) : wpAny M A (eval (.Name x px) (compEnvC scope cl C env)) Q E s :=
  wpAny_Name (wpAny_loadName_local (by simp [compEnvC, relabel, hkind]) (lookup_relabel_local hx) hn hv h) hb
/-- a dict of the ledger as the source of a dict comprehension: each key under itself -/
noncomputable def SrcSame (prog : Program) (w : World) (A : Around) (h₀ : Heap) (L : Addr) (m : Str → Option Value) (y : Str) (Q : Flow → Shared → Prop) (xv : Value) (s₁ : Shared) : Prop :=
  ∃ d o kvs news, xv = .ref d ∧ A.handled = none ∧ Fr h₀ L s₁.heap m ∧ News h₀ L s₁.heap news ∧ (d, o) ∈ news ∧ o.IsDictOf (PySem.strKind prog w) kvs ∧ (d == sysModules) = false ∧ kvs.length ≤ 1000 ∧
    ∀ D o' kR h' tk, Fr h₀ L h' (fun z => if z = y then some (.ref D) else m z) → News h₀ L h' ((D, o') :: news) → (∀ p ∈ news, p.1 < D) → o'.IsDictOf (PySem.strKind prog w) kR → kR.map (·.1) = kvs.map (·.1) → (∀ p ∈ kR, ∃ t, p.2 = .str p.1 t) → Q .next { s₁ with heap := h', toks := tk }
theorem Assign_DictComp_same {x y : Str} {px p1 p2 py : Pos} {Q : Flow → Shared → Prop} (_F₀ : Fr h₀ L s.heap m) (hL : env.locals = L)
    (hsw : swapsWith (.DictComp (.Name x p1) (.Name x p2) [⟨.Name x px, iter, [], 0⟩] scope pos) (some (.Name y py)) spos.line env = pure true)
    (hclos : closureFor scope env = pure cl) (hcell : ∀ z ∈ scope.names, z.2 ≠ .cell) (hkind : scope.kind = .function)
    (hnames : ∀ z ∈ scope.names, z.2 = .local → scope.names.lookup z.1 = some .local) (hx : scope.names.lookup x = some .local)
    (hy : env.kindOf y = some .local) (hp : (env.scope.kind == .class || (env.scope.kind == .module && env.locals != env.globals)) = false) (hb : (x == ("__debug__" : Str)) = false)
    (h : wpAny (model prog w) A (eval iter env) (SrcSame prog w A h₀ L m y Q) E s)
    (hs : ∀ x, foldedSetIterable iter env x = pure x := by intro _; rfl) :
    wpAny (model prog w) A (exec (.Assign [.Name y py] (.DictComp (.Name x p1) (.Name x p2) [⟨.Name x px, iter, [], 0⟩] scope pos) spos) env) Q E s := by
  subst hL
  rw [exec_Assign_Name_used _ _ _ _ hsw]
  refine wpAny_bind (wpAny_standAt (wpAny_bind ?_))
  show wpAny _ A (do let _ ← comprehension (.DictComp (.Name x p1) (.Name x p2) [⟨.Name x px, iter, [], 0⟩] scope pos) scope env _ newDict false (eval iter env) (some (assign (.Name y py) env))) _ _ s
  refine wpAny_bind (wpAny_mono (wpAny_comprehension_free (use := some (assign (.Name y py) env)) (Q := fun _ s' => Q .next s') rfl hs hclos hkind hnames
    (wpAny_mono h (fun xv s₁ h₁ => ?_) fun _ _ e => e)) (fun _ s' hq => wpAny_pure (wpAny_pure hq)) fun _ _ e => e)
  obtain ⟨d, o, kvs, news, rfl, hh, F, N, hm, hd, lo, hsz, k⟩ := h₁
  obtain ⟨es, ep, hd1, hd2, hd3, hd4, hd5⟩ := id hd
  have hat : s₁.heap.DictAt (PySem.strKind prog w) d kvs ep := ⟨o, es, (N _ hm).1, hd1, hd2, hd3, hd4, hd5⟩
  refine wpAny_pyIter_dict lo hat ?_
  have hlt : d < s₁.heap.objs.size := Heap.lt_size (N _ hm).1
  have up : ∀ b o, s₁.heap.get? b = some o → (s₁.heap.push { cls := .type "dict_keyiterator", data := .fields #[.ref d, .int 0 0, .int kvs.length 0, .int ep 0] }).get? b = some o := fun b o e => Heap.get?_push_of_some _ e
  refine dict_made (knd := PySem.strKind prog w) (RR := fun acc C => compPost (model prog w) A E (some (assign (.Name y py) env)) (fun _ s' => Q .next s') acc C) (Walks.dictKeys hh _ d (Nat.ne_of_lt hlt) kvs ep) (by rw [sizeLine_eq]; lia  )
    (fun v k => ∃ t, v = Value.str k t) (fun v y => y = v) hcell hkind hx ⟨⟨_, Heap.get?_push_size _ rfl, rfl, rfl⟩, hat.at' fun o e => up _ _ e⟩ ?_ ?_ ?_ ?_
  · intro b hb
    show b < (s₁.heap.push _).objs.size
    rw [Heap.size_push]
    rcases List.mem_cons.mp hb with rfl | hb
    · exact Nat.lt_succ_self _
    · rw [List.mem_singleton.mp hb]; exact Nat.lt_succ_of_lt hlt
  · intro C i v s₃ m₃ E' hP hn hv _
    obtain ⟨k', _, _, hk⟩ := hP
    obtain ⟨t, e⟩ := strKey_is hk
    exact item_name hkind hx hn hv ⟨⟨k', hk, t, e⟩, s₃.heap, s₃.toks, rfl, fun _ _ e => e⟩ hb
  · intro C i v s₃ m₃ E' hP hn hv _
    exact item_name hkind hx hn hv ⟨rfl, s₃.heap, s₃.toks, rfl, fun _ _ e => e⟩ hb
  · intro D C h' tk m' kR vs hD hC hDC hnC hlD hlen hP hF hk
    have hDs : D = s₁.heap.objs.size + 1 := hD.trans (Heap.size_push ..)
    obtain ⟨e1, e2⟩ := stored_pairs (ks := kvs.map (·.1)) hF (fun _ _ h => h) (by rw [hlen, List.length_map]) (fun j v hj => by
      obtain ⟨k', x', ek, hk'⟩ := hP j v hj
      obtain ⟨t, e⟩ := strKey_is hk'
      exact ⟨k', t, by rw [List.getElem?_map, ek]; rfl, e⟩) hd5
    have hLn : env.locals ∉ [s₁.heap.objs.size] := fun hm => by
      rw [List.mem_singleton] at hm; exact Nat.lt_irrefl _ (hm ▸ F.ns.lt)
    have keepU : ∀ b o, s₁.heap.get? b = some o → h'.get? b = some o := fun b o e => hk b o (fun hm => by rw [List.mem_singleton] at hm; exact Nat.lt_irrefl _ (hm ▸ Heap.lt_size e)) (up b o e)
    have hLlt : @LT.lt Nat _ env.locals s₁.heap.objs.size := F.ns.lt
    have hLC : env.locals ≠ C := fun q => by obtain ⟨o', _, _, ho, _⟩ := F.ns; rw [← q] at hC; exact nomatch (up _ _ ho).symm.trans hC
    have hLD : env.locals ≠ D := Nat.ne_of_lt (by lia  )
    show wpAny _ A (assign (.Name y py) env (.ref D)) _ _ _
    refine wpAny_assign_Name (wpAny_storeName_local hy (F.ns.at' fun o e => keepU _ o e) (fun h₂ hn₂ hs₂ => ?_) hp)
    refine ⟨m', hnC.sameBut hs₂ (Ne.symm hLC), fun h₃ hs₃ => ?_⟩
    have keep : ∀ b o, b ≠ env.locals → s₁.heap.get? b = some o → h₃.get? b = some o := fun b o hb e =>
      hs₃.extBut b o (fun q => by rw [← q] at hC; exact nomatch (up _ _ e).symm.trans hC) (hs₂.extBut b o hb (keepU b o e))
    obtain ⟨oR, hoR, hdR⟩ := Heap.dictOf_iff.mp ((hlD.extBut hs₂.extBut (Ne.symm hLD)).extBut hs₃.extBut hDC)
    have hL₀ : h₀.get? env.locals = none := Heap.get?_none_of_le F.above
    refine k D oR kR h₃ _ ⟨hn₂.sameBut hs₃ hLC, fun b o e => keep b o (fun q => by rw [q, hL₀] at e; cases e) (F.keep b o e), F.above⟩ (fun p hp => ?_) (fun p hp => ?_) hdR e1 (fun p hp => ?_)
    · rcases List.mem_cons.mp hp with rfl | hp
      · refine ⟨hoR, Ne.symm hLD, ?_⟩
        show h₀.get? D = none
        refine Heap.get?_none_of_le ?_
        have hab : @LE.le Nat _ h₀.objs.size env.locals := F.above
        exact (show @LE.le Nat _ h₀.objs.size D by lia  )
      · exact ⟨keep _ _ (N p hp).2.1 (N p hp).1, (N p hp).2⟩
    · have hlp : @LT.lt Nat _ p.1 s₁.heap.objs.size := Heap.lt_size (N p hp).1
      exact (show @LT.lt Nat _ p.1 D by lia  )
    · obtain ⟨v, ⟨t, ev⟩, e4⟩ := e2 p hp
      exact ⟨t, by rw [e4, ev]⟩
/-- a text as the source of a dict comprehension: under each sign what a cell has -/
noncomputable def SrcCell (prog : Program) (w : World) (A : Around) (h₀ : Heap) (L : Addr) (m : Str → Option Value) (c : Addr) (Q : Value → Shared → Prop) (xv : Value) (s₁ : Shared) : Prop :=
  ∃ row t news o v tv, xv = .str (rowStr row) t ∧ A.handled = none ∧ Fr h₀ L s₁.heap m ∧ News h₀ L s₁.heap news ∧ (c, o) ∈ news ∧ o.data = .cell (some (.int v tv)) ∧ row.Nodup ∧ row.length ≤ 1000 ∧ h₀.NoLimit ∧
    ∀ D o' kR h' tk, Fr h₀ L h' m → News h₀ L h' ((D, o') :: news) → (∀ p ∈ news, p.1 < D) → (D == sysModules) = false → o'.IsDictOf (PySem.strKind prog w) kR → CV kR (row.map fun k => (letter k, v)) → Q (.ref D) { s₁ with heap := h', toks := tk }
theorem cv_of {kR : List (Str × Value)} {ks : List Str} {v : Int} {tv : Tok} (h1 : kR.map (·.1) = ks) (h2 : ∀ p ∈ kR, p.2 = .int v tv) : CV kR (ks.map fun k => (k, v)) := by
  subst h1
  induction kR with
  | nil => exact .nil
  | cons p r ih =>
    obtain ⟨k, x⟩ := p
    have := h2 (k, x) (.head _)
    dsimp only at this
    subst this
    exact .cons (ih fun q hq => h2 q (.tail _ hq))
theorem rowStr_at {row : List Nat} {i c : Nat} (h : (rowStr row).cps[i]? = some c) : ∃ k, row[i]? = some k ∧ c = 97 + k := by
  have h' : ((row.map (97 + ·)).toArray)[i]? = some c := h
  rw [List.getElem?_toArray, List.getElem?_map] at h'
  cases e : row[i]? with
  | none => rw [e] at h'; cases h'
  | some k => rw [e] at h'; exact ⟨k, rfl, by simpa using h'.symm⟩
theorem map_letter_nodup {row : List Nat} (h : row.Nodup) : (row.map letter).Nodup := by
  induction row with
  | nil => exact List.nodup_nil
  | cons a r ih =>
    rw [List.nodup_cons] at h
    rw [List.map_cons, List.nodup_cons]
    refine ⟨fun hm => ?_, ih h.2⟩
    obtain ⟨j, hj, e⟩ := List.mem_map.mp hm
    exact h.1 (letter_inj e ▸ hj)
theorem DictComp_cell {x z : Str} {px p1 p2 : Pos} {c : Addr} {Q : Value → Shared → Prop} (_F₀ : Fr h₀ L s.heap m) (hL : env.locals = L)
    (hclos : closureFor scope env = pure cl) (hcell : ∀ z ∈ scope.names, z.2 ≠ .cell) (hkind : scope.kind = .function)
    (hnames : ∀ z ∈ scope.names, z.2 = .local → scope.names.lookup z.1 = some .local) (hx : scope.names.lookup x = some .local)
    (hz : ∀ C, (compEnvC scope cl C env).kindOf z = some .cell) (hc : cl.lookup z = some c) (hb : (x == ("__debug__" : Str)) = false) (hbz : (z == ("__debug__" : Str)) = false)
    (h : wpAny (model prog w) A (eval iter env) (SrcCell prog w A h₀ L m c Q) E s)
    (hs : ∀ x, foldedSetIterable iter env x = pure x := by intro _; rfl) :
    wpAny (model prog w) A (eval (.DictComp (.Name x p1) (.Name z p2) [⟨.Name x px, iter, [], 0⟩] scope pos) env) Q E s := by
  subst hL
  rw [arm_eval_DictComp]
  refine wpAny_comprehension_free (use := none) rfl hs hclos hkind hnames (wpAny_mono h (fun xv s₁ h₁ => ?_) fun _ _ e => e)
  obtain ⟨row, t, news, oc, v, tv, rfl, hh, F, N, hm, hdc, hnd, hsz, hbig, k⟩ := h₁
  refine wpAny_pyIter_str fun oI St hW hst => ?_
  have up : ∀ b o, s₁.heap.get? b = some o → (s₁.heap.push oI).get? b = some o := fun b o e => Heap.get?_push_of_some _ e
  have hclt : c < s₁.heap.objs.size := Heap.lt_size (N _ hm).1
  refine dict_made (knd := PySem.strKind prog w) (RR := fun acc C => compPost (model prog w) A E none Q acc C) (hW A hh) (by rw [sizeLine_eq]; show (row.map (97 + ·)).toArray.size ≤ 16777216; rw [List.size_toArray, List.length_map]; lia  )
    (fun v k => ∃ t, v = Value.str k t) (fun _ y => y = Value.int v tv) hcell hkind hx hst ?_ ?_ ?_ ?_
  · intro b hb
    show b < (s₁.heap.push _).objs.size
    rw [Heap.size_push, List.mem_singleton.mp hb]; exact Nat.lt_succ_self _
  · intro C i v' s₃ m₃ E' hP hn hv _
    obtain ⟨c', u, _, e⟩ := hP
    exact item_name hkind hx hn hv ⟨⟨⟨#[c']⟩, by rw [e]; exact strKind_is _ _ _ _, u, e⟩, s₃.heap, s₃.toks, rfl, fun _ _ e => e⟩ hb
  · intro C i v' s₃ m₃ E' hP hn hv hk
    refine wpAny_Name (wpAny_loadName_cell (by simp [compEnvC, relabel, hkind]) (hz C) hc ⟨oc, hk c oc (fun hq => ?_) (up _ _ (N _ hm).1), hdc⟩ ⟨rfl, s₃.heap, s₃.toks, rfl, fun _ _ e => e⟩) hbz
    rw [List.mem_singleton] at hq; exact Nat.lt_irrefl _ (hq ▸ hclt)
  · intro D C h' tk m' kR vs hD hC hDC hnC hlD hlen hP hF hk
    have hDs : D = s₁.heap.objs.size + 1 := hD.trans (Heap.size_push ..)
    obtain ⟨e1, e2⟩ := stored_pairs (ks := row.map letter) hF (fun _ _ h => h) (by rw [hlen, List.length_map]; show (row.map (97 + ·)).toArray.size = _; simp) (fun j v hj => by
      obtain ⟨c', u, ec, e⟩ := hP j v hj
      obtain ⟨k', ek, rfl⟩ := rowStr_at ec
      exact ⟨letter k', u, by rw [List.getElem?_map, ek]; rfl, e⟩) (map_letter_nodup hnd)
    have keepU : ∀ b o, s₁.heap.get? b = some o → h'.get? b = some o := fun b o e => hk b o (fun hm => by rw [List.mem_singleton] at hm; exact Nat.lt_irrefl _ (hm ▸ Heap.lt_size e)) (up b o e)
    refine ⟨m', hnC, fun h₃ hs₃ => ?_⟩
    have hLC : env.locals ≠ C := fun q => by obtain ⟨o', _, _, ho, _⟩ := F.ns; rw [← q] at hC; exact nomatch (up _ _ ho).symm.trans hC
    have keep : ∀ b o, s₁.heap.get? b = some o → h₃.get? b = some o := fun b o e => hs₃.extBut b o (fun q => by rw [← q] at hC; exact nomatch (up _ _ e).symm.trans hC) (keepU b o e)
    obtain ⟨oR, hoR, hdR⟩ := Heap.dictOf_iff.mp (hlD.extBut hs₃.extBut hDC)
    have hLlt : @LT.lt Nat _ env.locals s₁.heap.objs.size := F.ns.lt
    have hab : @LE.le Nat _ h₀.objs.size env.locals := F.above
    have hcv : CV kR ((row.map letter).map fun k => (k, v)) := cv_of (tv := tv) e1 fun p hp => by
      obtain ⟨_, _, e4⟩ := e2 p hp
      exact e4
    rw [List.map_map] at hcv
    refine k D oR kR h₃ _ ⟨F.ns.at' fun o e => keep _ o e, fun b o e => keep b o (F.keep b o e), F.above⟩ (fun p hp => ?_) (fun p hp => ?_) (beq_eq_false_iff_ne.mpr ?_) hdR hcv
    · rcases List.mem_cons.mp hp with rfl | hp
      · exact ⟨hoR, Nat.ne_of_gt (show @LT.lt Nat _ env.locals D by lia  ), Heap.get?_none_of_le (show @LE.le Nat _ h₀.objs.size D by lia  )⟩
      · exact ⟨keep _ _ (N p hp).1, (N p hp).2⟩
    · have hlp : @LT.lt Nat _ p.1 s₁.heap.objs.size := Heap.lt_size (N p hp).1
      exact (show @LT.lt Nat _ p.1 D by lia  )
    · have hml : @LT.lt Nat _ sysModules h₀.objs.size := modules_low hbig
      exact Nat.ne_of_gt (show @LT.lt Nat _ sysModules D by lia  )
end
end Mine
namespace Mine
/-- the text of a name, great or small; the pairs that a stage has -/
noncomputable def txtK (q : Nat × Bool) : Str := if q.2 then upper q.1 else letter q.1
noncomputable def pairsT (S : St) : List (Str × Str) := S.ps.map fun q => (txtK q, letter (S.par q.1))
end Mine
namespace Mine
theorem okP_pairs {S : St} (h : ∀ k ∈ S.ps.map (·.1), k < 5 ∧ S.par k < 5) : OkP (pairsT S) := by
  intro p hp
  obtain ⟨q, hq, rfl⟩ := List.mem_map.mp hp
  have := h q.1 (List.mem_map_of_mem hq)
  refine ⟨?_, okS_letter this.2⟩
  show OkS (txtK q)
  unfold txtK
  split
  · exact okS_upper this.1
  · exact okS_letter this.1
theorem Good.lt5 {d w : Nat → Int} {b : Nat → Nat} {S : St} (G : Good d w b S) : ∀ k ∈ S.ps.map (·.1), k < 5 ∧ S.par k < 5 := fun k hk => by
  have h1 := (G.lt k hk).2
  have h2 := (G.pl k hk).1
  exact ⟨h1, by lia  ⟩
end Mine
namespace Mine
theorem TabK.same {kB kR : List (Str × Value)} {i : Nat} {P : Nat → Value → Prop} (h : TabK kB i P) (e : kR.map (·.1) = kB.map (·.1)) (hv : ∀ p ∈ kR, ∃ t, p.2 = .str p.1 t) : TabK kR i (fun k v => ∃ t, v = .str (rowStr [k]) t) := by
  refine ⟨e.trans h.1, fun k hk => ?_⟩
  have hm : letter k ∈ kR.map (·.1) := by rw [e, h.1]; exact List.mem_map_of_mem (List.mem_range.mpr hk)
  have hs : (valueAt kR (letter k)).isSome = true := by
    unfold valueAt
    obtain ⟨p, hp, e1⟩ := List.mem_map.mp hm
    cases e2 : kR.find? (fun kv => kv.1 = letter k) with
    | none => rw [List.find?_eq_none] at e2; exact absurd (by simpa using e1) (e2 p hp)
    | some q => rfl
  obtain ⟨v, ev⟩ := Option.isSome_iff_exists.mp hs
  refine ⟨v, ev, ?_⟩
  unfold valueAt at ev
  cases e2 : kR.find? (fun kv => kv.1 = letter k) with
  | none => rw [e2] at ev; cases ev
  | some q =>
    rw [e2] at ev
    have e3 : q.2 = v := Option.some.inj ev
    obtain ⟨t, e4⟩ := hv q (List.mem_of_find?_eq_some e2)
    have e5 : q.1 = letter k := by simpa using List.find?_some e2
    exact ⟨t, by rw [← e3, e4, e5]; rfl⟩
end Mine

end
section -- P22
open PySem PySem.W PyProof.Rows
set_option maxRecDepth 100000
namespace Mine
open PySem.Builtin.Int (intBits)
/-! the order of the TupleComp -/
theorem list1_lt (a b : Nat) : ([a] : List Nat) < [b] ↔ a < b := by
  constructor
  · intro h
    cases h with
    | rel h => exact h
    | cons h => cases h
  · intro h; exact .rel h
theorem letter_lt (j k : Nat) : (letter j).cps.toList < (letter k).cps.toList ↔ j < k := by
  show ([97 + j] : List Nat) < [97 + k] ↔ _
  rw [list1_lt]; lia  
theorem cmp_self {d0 d1 q : Int} {n : Str} : cmpV d0 d1 q q n n = 0 := by
  unfold cmpV
  have h : ¬ n.cps.toList < n.cps.toList := List.lt_irrefl _
  simp [h]
theorem cmp_neg {d0 d1 q q' : Int} {j k : Nat} : cmpV d0 d1 q q' (letter j) (letter k) = - cmpV d0 d1 q' q (letter k) (letter j) := by
  unfold cmpV
  simp only [letter_lt]
  by_cases a : q < q'
  · have : ¬ q' < q := by lia  
    simp [a, this]
  · by_cases b : q' < q
    · simp [a, b]
    · by_cases c : j < k
      · have : ¬ k < j := by lia  
        simp [a, b, c, this]
      · by_cases e : k < j
        · simp [a, b, c, e]
        · simp [a, b, c, e]
/-- a stands ahead of b, or they are the same to it -/
noncomputable def Ahead (d1 : Int) (a b : Int × Nat) : Prop := b.1 ≤ a.1 ∧ (a.1 = b.1 → d1 * (a.2 : Int) ≤ d1 * (b.2 : Int))
theorem Ahead.refl {d1 : Int} {a : Int × Nat} : Ahead d1 a a := ⟨Int.le_refl _, fun _ => Int.le_refl _⟩
theorem Ahead.trans {d1 : Int} {a b c : Int × Nat} (h : Ahead d1 a b) (k : Ahead d1 b c) : Ahead d1 a c := by
  refine ⟨Int.le_trans k.1 h.1, fun e => ?_⟩
  have h1 := h.1
  have k1 := k.1
  exact Int.le_trans (h.2 (by lia  )) (k.2 (by lia  ))
theorem cmp_ahead {d0 d1 q q' : Int} {j k : Nat} (h0 : d0 = -1 ∨ d0 = -2) (h1 : d1 = 1 ∨ d1 = -3) (h : cmpV d0 d1 q q' (letter j) (letter k) < 0) : Ahead d1 (q, j) (q', k) := by
  unfold cmpV at h
  simp only [letter_lt] at h
  unfold Ahead
  dsimp only
  by_cases a : q < q'
  · rw [if_pos a] at h; lia  
  · rw [if_neg a] at h
    by_cases b : q' < q
    · exact ⟨by lia  , fun e => by lia  ⟩
    · rw [if_neg b] at h
      refine ⟨by lia  , fun _ => ?_⟩
      rcases h1 with rfl | rfl
      · by_cases c : j < k
        · lia  
        · rw [if_neg c] at h
          by_cases e : k < j
          · rw [if_pos e] at h; lia  
          · lia  
      · by_cases c : j < k
        · rw [if_pos c] at h; lia  
        · lia  
theorem cmp_not {d0 d1 q q' : Int} {j k : Nat} (h0 : d0 = -1 ∨ d0 = -2) (h1 : d1 = 1 ∨ d1 = -3) (h : ¬ cmpV d0 d1 q q' (letter j) (letter k) < 0) : Ahead d1 (q', k) (q, j) := by
  unfold cmpV at h
  simp only [letter_lt] at h
  unfold Ahead
  dsimp only
  by_cases a : q < q'
  · exact ⟨by lia  , fun e => by lia  ⟩
  · rw [if_neg a] at h
    by_cases b : q' < q
    · rw [if_pos b] at h; lia  
    · rw [if_neg b] at h
      refine ⟨by lia  , fun _ => ?_⟩
      rcases h1 with rfl | rfl
      · by_cases c : j < k
        · rw [if_pos c] at h; lia  
        · lia  
      · by_cases c : j < k
        · lia  
        · rw [if_neg c] at h
          by_cases e : k < j
          · rw [if_pos e] at h; lia  
          · lia  
/-! the numbers -/
noncomputable def lift : Int := 2 ^ 4100
theorem lift_pos : 0 < lift := kbt_pos 4100
theorem lift_bits : intBits lift ≤ 4101 := bits_of_lt (Int.le_of_lt lift_pos) (by
  unfold lift
  rw [show (4101 : Nat) = 4100 + 1 from rfl, Int.pow_succ]
  have := kbt_pos 4100
  lia  )
theorem lift_big : 1225 ≤ lift := by
  have h : (2 : Int) ^ 4100 = 2 ^ 11 * 2 ^ 4089 := by rw [← two_pow_mul]
  unfold lift
  rw [h]
  have := kbt_pos 4089
  have e : (2 : Int) ^ 11 = 2048 := by decide
  rw [e]; lia  
theorem lift_is : (2 : Int) ^ Int.toNat 4100 = lift := congrArg (fun n : Nat => (2 : Int) ^ n) (show Int.toNat 4100 = 4100 from rfl)
structure Nums (W D gr lo : Int) : Prop where
  m1 : IntMulOk W lift
  m2 : IntMulOk (W * lift) gr
  m3 : IntMulOk D gr
  m4 : IntMulOk ((W * lift) % D) gr
  x0 : 0 ≤ W * lift * gr + lo
  y0 : 0 < D * gr
  b1 : 20 ≤ (intBits (D * gr) : Int)
  b2 : (intBits (D * gr) : Int) ≤ 6999
  xy : W * lift * gr + lo < D * gr * 2 ^ ((intBits (D * gr) : Nat) : Int).toNat
  xb : (intBits (W * lift * gr + lo) : Int) ≤ (intBits (D * gr) : Int) + (intBits (D * gr) : Int) / 2 + 4000
  q : (W * lift * gr + lo) / (D * gr) = W * lift / D
  r : (W * lift * gr + lo) % (D * gr) = W * lift % D * gr + lo
  d0 : 0 < D
  dn : D ≠ 0
  db : intBits D ≤ 6
theorem intBits_mono {x y : Int} (h0 : 0 ≤ x) (h : x ≤ y) : intBits x ≤ intBits y :=
  bits_of_lt h0 (Int.lt_of_le_of_lt h (lt_of_bits (Nat.le_refl _)))
theorem nums {W D gr lo : Int} (hW0 : 0 ≤ W) (hW : W ≤ 95) (hD0 : 1 ≤ D) (hD : D ≤ 35) (hlo : 0 ≤ lo) (hlo2 : lo < gr) (hg1 : 4200 ≤ intBits gr) (hg2 : intBits gr ≤ 4300) : Nums W D gr lo := by
  have hgr : 0 < gr := by lia  
  have bW : intBits W ≤ 7 := bits_of_lt hW0 (by have : (2 : Int) ^ 7 = 128 := by decide
                                                lia  )
  have bD : intBits D ≤ 6 := bits_of_lt (by lia  ) (by have : (2 : Int) ^ 6 = 64 := by decide
                                                       lia  )
  have hA0 : 0 ≤ W * lift := Int.mul_nonneg hW0 (Int.le_of_lt lift_pos)
  have bA : intBits (W * lift) ≤ 4108 := intBits_mul_le bW lift_bits
  have hAD := Int.mul_ediv_add_emod (W * lift) D
  have r0 := Int.emod_nonneg (W * lift) (show D ≠ 0 by lia  )
  have r1 := Int.emod_lt_of_pos (W * lift) (show 0 < D by lia  )
  have bR : intBits ((W * lift) % D) ≤ 6 := mod_bits (by lia  ) bD
  have hy0 : 0 < D * gr := Int.mul_pos (by lia  ) hgr
  have by1 : intBits gr ≤ intBits (D * gr) := intBits_mono (by lia  ) (by
    have := Int.mul_le_mul_of_nonneg_right (show (1 : Int) ≤ D from hD0) (Int.le_of_lt hgr)
    lia  )
  have by2 : intBits (D * gr) ≤ 4306 := intBits_mul_le bD hg2
  have hx0 : 0 ≤ W * lift * gr + lo := by have := Int.mul_nonneg hA0 (Int.le_of_lt hgr); lia  
  have bx : intBits (W * lift * gr + lo) ≤ 4108 + intBits gr := by
    refine bits_of_lt hx0 ?_
    rw [two_pow_mul]
    have h1 := lt_of_bits bA
    have h2 := lt_of_bits (Nat.le_refl (intBits gr))
    have h3 : (W * lift + 1) * gr ≤ 2 ^ 4108 * gr := Int.mul_le_mul_of_nonneg_right (by lia  ) (by lia  )
    have h4 : (2 : Int) ^ 4108 * gr ≤ 2 ^ 4108 * 2 ^ intBits gr := Int.mul_le_mul_of_nonneg_left (by lia  ) (Int.le_of_lt (kbt_pos _))
    rw [Int.add_mul, Int.one_mul] at h3
    lia  
  have key : W * lift * gr + lo = W * lift / D * (D * gr) + (W * lift % D * gr + lo) := by
    have : W * lift = W * lift / D * D + W * lift % D := by rw [Int.mul_comm (W * lift / D)]; lia  
    calc W * lift * gr + lo = (W * lift / D * D + W * lift % D) * gr + lo := by rw [← this]
      _ = W * lift / D * (D * gr) + (W * lift % D * gr + lo) := by rw [Int.add_mul, Int.mul_assoc]; lia  
  have rr0 : 0 ≤ W * lift % D * gr + lo := by have := Int.mul_nonneg r0 (Int.le_of_lt hgr); lia  
  have rr1 : W * lift % D * gr + lo < D * gr := by
    have := Int.mul_le_mul_of_nonneg_right (show W * lift % D + 1 ≤ D by lia  ) (Int.le_of_lt hgr)
    rw [Int.add_mul, Int.one_mul] at this
    lia  
  obtain ⟨e1, e2⟩ := qr_of key.symm rr0 rr1
  refine ⟨IntMulOk.of_le bW lift_bits (by decide), IntMulOk.of_le bA hg2 (by decide), IntMulOk.of_le bD hg2 (by decide), IntMulOk.of_le bR hg2 (by decide), hx0, hy0, by lia  , by lia  , ?_, by lia  , e1.symm, e2.symm, by lia  , by lia  , bD⟩
  rw [Int.toNat_natCast]
  have h1 := lt_of_bits bA
  have h3 : (W * lift + 1) * gr ≤ 2 ^ 4108 * gr := Int.mul_le_mul_of_nonneg_right (by lia  ) (by lia  )
  rw [Int.add_mul, Int.one_mul] at h3
  have h5 : (2 : Int) ^ 4108 ≤ 2 ^ intBits (D * gr) := by
    rw [← kbt_cast 4108, ← kbt_cast (intBits (D * gr))]
    exact Int.ofNat_le.mpr (Nat.pow_le_pow_right (by decide) (by lia  ))
  have h6 : 2 ^ 4108 * gr ≤ 2 ^ intBits (D * gr) * gr := Int.mul_le_mul_of_nonneg_right h5 (by lia  )
  have h7 : 2 ^ intBits (D * gr) * gr ≤ D * gr * 2 ^ intBits (D * gr) := by
    rw [Int.mul_comm (D * gr)]
    refine Int.mul_le_mul_of_nonneg_left ?_ (Int.le_of_lt (kbt_pos _))
    have := Int.mul_le_mul_of_nonneg_right (show (1 : Int) ≤ D from hD0) (Int.le_of_lt hgr)
    lia  
  lia  
end Mine
namespace Mine
/-! the rows of the blocks that still stand -/
structure Rowy (S : St) : Prop where
  ne : ∀ k, S.alive k → S.row k ≠ []
  nd : ∀ k, S.alive k → (S.row k).Nodup
  lt : ∀ k, S.alive k → ∀ j ∈ S.row k, j < 5
  dj : ∀ k l, S.alive k → S.alive l → k ≠ l → ∀ j ∈ S.row k, j ∉ S.row l
theorem Rowy.start {b : Nat → Nat} : Rowy (St.start b) where
  ne := fun k _ => by show [k] ≠ []; simp
  nd := fun k _ => by show [k].Nodup; simp
  lt := fun k h j hj => by
    have : j ∈ [k] := hj
    rw [List.mem_singleton.mp this]; exact start_alive.mp h
  dj := fun k l _ _ hne j hj hl => by
    have h1 : j ∈ [k] := hj
    have h2 : j ∈ [l] := hl
    exact hne ((List.mem_singleton.mp h1).symm.trans (List.mem_singleton.mp h2))
theorem Rowy.glue {d w : Nat → Int} {b : Nat → Nat} {S : St} (R : Rowy S) (G : Good d w b S) {p : Nat} (hp : p ∈ S.ps.map (·.1)) : Rowy (S.glue p) := by
  have p0 : p ≠ 0 := by have := (G.lt p hp).1; lia  
  have php : S.par p ≠ p := by have := (G.pl p hp).1; lia  
  have ha := (G.pl p hp).2
  have hpa : S.alive p := .inr hp
  have row_h : (S.glue p).row (S.par p) = S.row (S.par p) ++ S.row p := if_pos rfl
  have row_o : ∀ k, k ≠ S.par p → (S.glue p).row k = S.row k := fun k hk => if_neg hk
  refine ⟨fun k hk => ?_, fun k hk => ?_, fun k hk j hj => ?_, fun k l hk hl hne j hj hjl => ?_⟩
  · have hk' := (glue_alive p0).mp hk
    by_cases e : k = S.par p
    · rw [e, row_h]; exact fun h => R.ne _ ha (List.append_eq_nil_iff.mp h).1
    · rw [row_o k e]; exact R.ne k hk'.2
  · have hk' := (glue_alive p0).mp hk
    by_cases e : k = S.par p
    · rw [e, row_h]
      exact List.nodup_append.mpr ⟨R.nd _ ha, R.nd _ hpa, fun x hx y hy e => R.dj _ _ ha hpa php x hx (e ▸ hy)⟩
    · rw [row_o k e]; exact R.nd k hk'.2
  · have hk' := (glue_alive p0).mp hk
    by_cases e : k = S.par p
    · rw [e, row_h] at hj
      exact (List.mem_append.mp hj).elim (R.lt _ ha j) (R.lt _ hpa j)
    · rw [row_o k e] at hj; exact R.lt k hk'.2 j hj
  · have hk' := (glue_alive p0).mp hk
    have hl' := (glue_alive p0).mp hl
    by_cases e : k = S.par p
    · have el : l ≠ S.par p := fun q => hne (e.trans q.symm)
      rw [row_o l el] at hjl
      rw [e, row_h] at hj
      rcases List.mem_append.mp hj with h | h
      · exact R.dj _ _ ha hl'.2 (fun q => el q.symm) j h hjl
      · exact R.dj _ _ hpa hl'.2 (fun q => hl'.1 q.symm) j h hjl
    · rw [row_o k e] at hj
      by_cases el : l = S.par p
      · rw [el, row_h] at hjl
        rcases List.mem_append.mp hjl with h | h
        · exact R.dj _ _ hk'.2 ha e j hj h
        · exact R.dj _ _ hk'.2 hpa hk'.1 j hj h
      · rw [row_o l el] at hjl; exact R.dj _ _ hk'.2 hl'.2 hne j hj hjl
theorem dur_le {d : Nat → Int} {a c : Int} {r : List Nat} (h : ∀ j ∈ r, a ≤ d j ∧ d j ≤ c) : a * (r.length : Int) ≤ durL d r ∧ durL d r ≤ c * (r.length : Int) := by
  induction r with
  | nil => simp [durL]
  | cons k r ih =>
    have h1 := h k (.head _)
    have h2 := ih fun j hj => h j (.tail _ hj)
    rw [durL_cons, List.length_cons, Int.natCast_succ, Int.mul_add, Int.mul_add]
    lia  
theorem Rowy.len {S : St} (R : Rowy S) {k : Nat} (hk : S.alive k) : 1 ≤ (S.row k).length ∧ (S.row k).length ≤ 5 :=
  ⟨List.length_pos_iff.mpr (R.ne k hk), nodup_le 5 _ (R.nd k hk) (R.lt k hk)⟩
theorem Rowy.dur {S : St} (R : Rowy S) {d : Nat → Int} (bd : ∀ k < 5, 1 ≤ d k ∧ d k ≤ 7) {k : Nat} (hk : S.alive k) : 1 ≤ durL d (S.row k) ∧ durL d (S.row k) ≤ 35 := by
  have h1 := dur_le fun j hj => bd j (R.lt k hk j hj)
  have h2 := R.len hk
  lia  
theorem Rowy.wei {S : St} (R : Rowy S) {wt : Nat → Int} (bw : ∀ k < 5, 0 ≤ wt k ∧ wt k ≤ 19) {k : Nat} (hk : S.alive k) : 0 ≤ durL wt (S.row k) ∧ durL wt (S.row k) ≤ 95 := by
  have h1 := dur_le fun j hj => bw j (R.lt k hk j hj)
  have h2 := R.len hk
  lia  
end Mine

end
section -- P23
open PySem PySem.W PyProof.Rows
set_option maxRecDepth 100000
namespace Mine
/-- what holds between the turns of the glueing -/
structure GI (w : World) (d wt : Nat → Int) (b : Nat → Nat) (news : List (Addr × Obj)) (PA BD RD H D OX OD KL l3 l2 l1 : Addr) (tH t : Tok) (hh : Int) (i : Nat) (S : St) (oB oR : Obj) (vsP : List Value) (DU : Addr) (nn : List (Addr × Obj)) : Prop where
  G : Good d wt b S
  R : Rowy S
  len : S.ps.length + i = 4
  dB : ∃ kB, oB.IsDictOf (KD w) kB ∧ TabK kB 5 (fun k v => BlkAt w nn d wt (S.row k) v)
  dR : ∃ kR, oR.IsDictOf (KD w) kR ∧ TabK kR 5 (fun k v => ∃ t, v = .str (rowStr (S.row k)) t)
  plP : PL nn vsP (pairsT S)
  du : ∃ vsD eD, (DU, lstO vsD eD) ∈ nn ∧ PL nn vsD (pairsT S)
  mH : (H, instObj 276 D) ∈ nn
  mD : (D, hdD w PA tH) ∈ nn
  mX : (OX, instObj 62 OD) ∈ nn
  mO : (OD, dictOf [⟨hh, .str (Str.ofString "comp_select_list") t, .ref KL⟩] 1) ∈ nn
  mN : ∀ p ∈ news, p ∈ nn
  f1 : ∀ p ∈ nn, p.1 ≠ PA
  f2 : ∀ p ∈ nn, p.1 ≠ BD
  f3 : ∀ p ∈ nn, p.1 ≠ RD
  f4 : ∀ p ∈ nn, p.1 ≠ l3
  f5 : ∀ p ∈ nn, p.1 ≠ l2
  f6 : ∀ p ∈ nn, p.1 ≠ l1
/-- the names that the turns read -/
structure Nm (m : Str → Option Value) (OX H DU RD BD PA KL : Addr) (gr lo : Int) (tg tl tL : Tok) : Prop where
  order : m (Str.ofString "order") = some (.ref OX)
  ahead : m (Str.ofString "ahead") = some (.ref H)
  due : m (Str.ofString "due") = some (.ref DU)
  rows : m (Str.ofString "rows") = some (.ref RD)
  lift : m (Str.ofString "lift") = some (.int lift tL)
  blocks : m (Str.ofString "blocks") = some (.ref BD)
  pairs : m (Str.ofString "pairs") = some (.ref PA)
  keys : m (Str.ofString "keys") = some (.ref KL)
  great : m (Str.ofString "great") = some (.int gr tg)
  low : m (Str.ofString "low") = some (.int lo tl)
theorem GI.mono {w : World} {d wt : Nat → Int} {b : Nat → Nat} {news : List (Addr × Obj)} {PA BD RD H D OX OD KL l3 l2 l1 : Addr} {tH t : Tok} {hh : Int} {i : Nat} {S : St} {oB oR : Obj} {vsP : List Value} {DU : Addr} {nn n' : List (Addr × Obj)}
    (I : GI w d wt b news PA BD RD H D OX OD KL l3 l2 l1 tH t hh i S oB oR vsP DU nn) (k : ∀ p ∈ nn, p ∈ n') (h : ∀ p ∈ n', p ∈ nn ∨ (p.1 ≠ PA ∧ p.1 ≠ BD ∧ p.1 ≠ RD ∧ p.1 ≠ l3 ∧ p.1 ≠ l2 ∧ p.1 ≠ l1)) : GI w d wt b news PA BD RD H D OX OD KL l3 l2 l1 tH t hh i S oB oR vsP DU n' where
  G := I.G
  R := I.R
  len := I.len
  dB := let ⟨kB, a, c⟩ := I.dB; ⟨kB, a, c.mono fun _ _ _ h => h.mono k⟩
  dR := I.dR
  plP := I.plP.mono k
  du := let ⟨vsD, eD, a, c⟩ := I.du; ⟨vsD, eD, k _ a, c.mono k⟩
  mH := k _ I.mH
  mD := k _ I.mD
  mX := k _ I.mX
  mO := k _ I.mO
  mN := fun p hp => k _ (I.mN p hp)
  f1 := fun p hp => (h p hp).elim (I.f1 p) (·.1)
  f2 := fun p hp => (h p hp).elim (I.f2 p) (·.2.1)
  f3 := fun p hp => (h p hp).elim (I.f3 p) (·.2.2.1)
  f4 := fun p hp => (h p hp).elim (I.f4 p) (·.2.2.2.1)
  f5 := fun p hp => (h p hp).elim (I.f5 p) (·.2.2.2.2.1)
  f6 := fun p hp => (h p hp).elim (I.f6 p) (·.2.2.2.2.2)
end Mine
namespace Mine
theorem lower_txt {q : Nat × Bool} (h : q.1 < 5) : Txt.lower (txtK q) = letter q.1 := by
  unfold txtK
  split
  · exact lower_upper q.1 h
  · exact lower_letter q.1 h
theorem okS_txt {q : Nat × Bool} (h : q.1 < 5) : OkS (txtK q) := by
  unfold txtK
  split
  · exact okS_upper h
  · exact okS_letter h
theorem keys_txt {S : St} : (pairsT S).map (·.1) = S.ps.map txtK := by unfold pairsT; rw [List.map_map]; rfl
end Mine
namespace Mine
section
variable {prog : Program} {w : World} {A : Around} {E : Value → Shared → Prop} {s : Shared} {Q : Value → Shared → Prop} {a b : Int} {t u : Tok}
theorem fdivW (h0 : 0 < b) (hb : Builtin.Int.intBits b ≤ 6) (h : Q (.int (a / b) s.toks) { s with toks := s.toks + 1 }) : wpAny (model prog w) A (binaryOp .FloorDiv (.int a t) (.int b u)) Q E s :=
  floordiv_int (by lia  ) (by rw [Int.fdiv_eq_ediv_of_nonneg _ (Int.le_of_lt h0)]; exact h) (Or.inl (PyProof.noPylong_of_log2 (Nat.lt_succ_of_lt (log2_lt_of (k := 8999) (by decide) (by lia  )))))
theorem fmodW (h0 : 0 < b) (h : Q (.int (a % b) s.toks) { s with toks := s.toks + 1 }) : wpAny (model prog w) A (binaryOp .Mod (.int a t) (.int b u)) Q E s :=
  mod_int' (by lia  ) (by rw [Int.fmod_eq_emod_of_nonneg _ (Int.le_of_lt h0)]; exact h)
end
end Mine
namespace Mine
theorem ord_letter {prog : Program} {w : World} {A : Around} {E : Value → Shared → Prop} {s : Shared} {Q : Value → Shared → Prop} {k : Nat} {t : Tok} (h : Q (.int ((97 + k : Nat) : Int) s.toks) { s with toks := s.toks + 1 }) : wpAny (model prog w) A (call (.builtin "ord") [.str (letter k) t]) Q E s :=
  P.ord_of_char h
theorem small_mul {x y : Int} (h0 : 0 ≤ x) (h1 : x ≤ 1000) (k0 : 0 ≤ y) (k1 : y ≤ 1000) : IntMulOk x y :=
  IntMulOk.of_le (m := 10) (n := 10) (bits_of_lt h0 (by have : (2 : Int) ^ 10 = 1024 := by decide
                                                        lia  )) (bits_of_lt k0 (by have : (2 : Int) ^ 10 = 1024 := by decide
                                                                                   lia  )) (by decide)
theorem ord_mul {d1 : Int} (h : d1 = 1 ∨ d1 = -3) {k : Nat} (hk : k < 5) : IntMulOk d1 ((97 + k : Nat) : Int) := by
  refine IntMulOk.of_le (m := 2) (n := 7) ?_ (bits_of_lt (by lia  ) (by have : (2 : Int) ^ 7 = 128 := by decide
                                                                        lia  )) (by decide)
  rcases h with rfl | rfl <;> decide
theorem quot_eq {M W W' D D' : Int} (hD : 0 < D) (hD' : 0 < D') (h : W * D' = W' * D) : W * M / D = W' * M / D' := by
  have e1 : W * M / D = (W * M * D') / (D * D') := (Int.mul_ediv_mul_of_pos_left _ _ hD').symm
  have e2 : W' * M / D' = (W' * M * D) / (D' * D) := (Int.mul_ediv_mul_of_pos_left _ _ hD).symm
  rw [e1, e2, Int.mul_comm D D', show W * M * D' = W * D' * M by ac_rfl, show W' * M * D = W' * D * M by ac_rfl, h]
/-- no block weighs more for its time than the one that stands first, nor as much with a letter that goes ahead -/
theorem best_is {d1 Wp Wk Dp Dk : Int} {p k : Nat} (hDp : 1 ≤ Dp) (hDp' : Dp ≤ 35) (hDk : 1 ≤ Dk) (hDk' : Dk ≤ 35) (ha : Ahead d1 (Wp * lift / Dp, p) (Wk * lift / Dk, k)) (h1 : d1 = 1 ∨ d1 = -3) :
    Wk * Dp ≤ Wp * Dk ∧ (Wk * Dp - Wp * Dk = 0 → ¬ (d1 * ((97 + k : Nat) : Int) < d1 * ((97 + p : Nat) : Int))) := by
  refine ⟨quot_le (M := lift) (by lia  ) (by lia  ) ?_ ha.1, fun e => ?_⟩
  · have := Int.mul_le_mul hDp' hDk' (by lia  ) (by lia  )
    have := lift_big
    lia  
  · have e1 := quot_eq (M := lift) (W := Wk) (D := Dk) (W' := Wp) (D' := Dp) (by lia  ) (by lia  ) (by lia  )
    have e2 := ha.2 e1.symm
    dsimp only at e2
    rcases h1 with rfl | rfl <;> lia  
end Mine
namespace Mine
/-! the pairs that wait, as they are asked -/
theorem pairs_find {S : St} {p : Nat} (hp : p ∈ S.ps.map (·.1)) (lt5 : ∀ k ∈ S.ps.map (·.1), k < 5 ∧ S.par k < 5) : ∃ x, (pairsT S).find? (fun q => Txt.lower q.1 == Txt.lower (Txt.upper (letter p))) = some (x, letter (S.par p)) := by
  have hp5 := (lt5 p hp).1
  have key : ∀ l : List (Nat × Bool), (∀ q ∈ l, q.1 < 5) → p ∈ l.map (·.1) → ∃ x, (l.map fun q => (txtK q, letter (S.par q.1))).find? (fun q => Txt.lower q.1 == Txt.lower (Txt.upper (letter p))) = some (x, letter (S.par p)) := by
    intro l
    induction l with
    | nil => intro _ h; cases h
    | cons q r ih =>
      intro h5 hm
      rw [List.map_cons, List.find?_cons]
      have e0 : (Txt.lower (txtK q, letter (S.par q.1)).1 == Txt.lower (Txt.upper (letter p))) = decide (q.1 = p) := by
        show (Txt.lower (txtK q) == Txt.lower (Txt.upper (letter p))) = _
        rw [lower_txt (h5 q (.head _)), upper_letter p hp5, lower_upper p hp5, letter_beq]
      by_cases e : q.1 = p
      · rw [e0, decide_eq_true e, e]; exact ⟨_, rfl⟩
      · rw [e0, decide_eq_false e]
        refine ih (fun q hq => h5 q (.tail _ hq)) ?_
        rw [List.map_cons] at hm
        exact (List.mem_cons.mp hm).resolve_left fun h => e h.symm
  exact key S.ps (fun q hq => (lt5 q.1 (List.mem_map_of_mem hq)).1) hp
/-! the items of a dict of numbers, as a list -/
noncomputable def intD (p : Str × Int) : Dat := .tuple [.str p.1, .int p.2]
theorem intD_ok {r : List Nat} (h : ∀ k ∈ r, k < 5) {d : Nat → Int} : ∀ c, ∀ e ∈ (untilF d c r).map intD, kqdOk 8 e = true := by
  induction r with
  | nil => intro _ e he; cases he
  | cons k r ih =>
    intro c e he
    rw [untilF, List.map_cons] at he
    rcases List.mem_cons.mp he with rfl | he
    · simp [intD, kqdOk, strOk_of (okS_letter (h k (.head _))).1]
    · exact ih (fun j hj => h j (.tail _ hj)) _ e he
theorem open_cv {lo : Addr} {news : List (Addr × Obj)} {C : List Value → List (Addr × Obj) → Prop} {kvs : List (Str × Value)} {l : List (Str × Int)} (h : CV kvs l) : ∀ (vs : List Value) (tups : List (Addr × Obj)) (dn : List Dat), DatAll tups vs dn → (∀ q ∈ tups, lo < q.1) →
    (∀ vs' tups', DatAll tups' vs' (dn ++ l.map intD) → (∀ q ∈ tups', lo < q.1) → C vs' tups') → KdxOpen lo news (kvs.map fun p => (kyVal (PyData.str p.1), p.2)) vs tups C := by
  induction h with
  | nil => intro vs tups dn D hlo k; exact KdxOpen.nil (k vs tups (by simpa using D) hlo)
  | @cons k n t r l _ ih =>
    intro vs tups dn D hlo kk
    refine KdxOpen.cons fun a ta ha _ _ => ?_
    refine ih _ _ (dn ++ [intD (k, n)]) ?_ (fun q hq => ?_) fun vs' tups' D' hl' => kk vs' tups' (by simpa using D') hl'
    · exact (D.mono fun p hp => .tail _ hp).append (.one (.tuple (vs := [.str k ta, .int n t]) (.head _) (.cons (.str _ _) (.cons (.int _ _) .nil))))
    · rcases List.mem_cons.mp hq with rfl | hq
      · exact ha
      · exact hlo q hq
theorem list_items {prog : Program} {w : World} {A : Around} {E : Value → Shared → Prop} {s : Shared} {h₀ : Heap} {L : Addr} {m : Str → Option Value} {news : List (Addr × Obj)} {v d : Addr} {od : Obj} {kvs : List (Str × Value)} {l : List (Str × Int)} {Q : Value → Shared → Prop}
    (hh : A.handled = none) (F : Fr h₀ L s.heap m) (N : News h₀ L s.heap news) (hvw : (v, { cls := .type "dict_items", data := .fields #[.ref d] }) ∈ news) (hmd : (d, od) ∈ news) (hod : od.IsDictOf (PySem.strKind prog w) kvs) (cv : CV kvs l) (hn : l.length ≤ 1000)
    (h : ∀ B vs c tups h' tk, (∀ q ∈ news, q.1 < B) → (∀ q ∈ tups, B < q.1) → DatAll tups vs (l.map intD) → Fr h₀ L h' m → News h₀ L h' (tups ++ (B, lstO vs c) :: news) → Q (.ref B) { s with heap := h', toks := tk }) :
    wpAny (model prog w) A (call (.type "list") [.ref v]) Q E s :=
  kdx_listN (enc := PyData.str) hh F N hvw hmd hod (by rw [cv.length]; lia  ) (fun k v h => strKey_is h) rfl fun B hB => open_cv cv [] [] [] .nil (fun _ hq => nomatch hq) fun vs tups D hl c h' tk h1 F' N' => h B vs c tups h' tk h1 hl (by simpa using D) F' N'
end Mine
namespace Mine
theorem untilF_len {d : Nat → Int} (r : List Nat) (c : Int) : (untilF d c r).length = r.length := by
  have := congrArg List.length (untilF_keys (d := d) r c)
  simpa using this
end Mine

end
section -- P24
open PySem PySem.W PyProof.Rows
set_option maxRecDepth 100000
namespace Mine
/-! what add_callers makes of the three tables -/
theorem getS_none {l : List (Str × Int)} {k : Str} (h : k ∉ l.map (·.1)) : getS l k = none := by
  unfold getS
  rw [Option.map_eq_none_iff, List.find?_eq_none]
  intro p hp e
  exact h (List.mem_map.mpr ⟨p, hp, by simpa using e⟩)
theorem getS_at {B r : List (Str × Int)} {k : Str} {v : Int} (h : k ∉ B.map (·.1)) : getS (B ++ (k, v) :: r) k = some v := by
  unfold getS
  have e : B.find? (fun p => p.1 = k) = none := by
    rw [List.find?_eq_none]
    intro p hp e
    exact h (List.mem_map.mpr ⟨p, hp, by simpa using e⟩)
  rw [List.find?_append, e]
  simp
theorem putS_at {B r : List (Str × Int)} {k : Str} {v x : Int} (h : k ∉ B.map (·.1)) (h2 : k ∉ r.map (·.1)) : putS (B ++ (k, v) :: r) k x = B ++ (k, x) :: r := by
  have off : ∀ l : List (Str × Int), k ∉ l.map (·.1) → l.map (fun p => if p.1 = k then (p.1, x) else p) = l := by
    intro l
    induction l with
    | nil => intro _; rfl
    | cons a l ih =>
      intro hl
      rw [List.map_cons] at hl
      have h1 : a.1 ≠ k := fun e => hl (e ▸ .head _)
      rw [List.map_cons, if_neg h1, ih fun hm => hl (.tail _ hm)]
  unfold putS
  rw [if_pos (by simp), List.map_append, List.map_cons, off B h, off r h2]
  simp
theorem copyS_is (l : List (Str × Int)) : ∀ acc : List (Str × Int), ((acc ++ l).map (·.1)).Nodup → copyS acc l = acc ++ l := by
  induction l with
  | nil => intro acc _; simp [copyS]
  | cons p r ih =>
    intro acc h
    have hn : p.1 ∉ acc.map (·.1) := by
      rw [List.map_append, List.map_cons] at h
      exact fun hm => (List.nodup_append.mp h).2.2 _ hm _ (.head _) rfl
    show copyS (putS acc p.1 p.2) r = _
    rw [putS_new hn, ih]
    · simp
    · simpa using h
theorem addS_new (l : List (Str × Int)) : ∀ acc : List (Str × Int), ((acc ++ l).map (·.1)).Nodup → l.foldl addS1 acc = acc ++ l := by
  induction l with
  | nil => intro acc _; simp
  | cons p r ih =>
    intro acc h
    have hn : p.1 ∉ acc.map (·.1) := by
      rw [List.map_append, List.map_cons] at h
      exact fun hm => (List.nodup_append.mp h).2.2 _ hm _ (.head _) rfl
    rw [List.foldl_cons]
    have e : addS1 acc p = acc ++ [(p.1, p.2)] := by unfold addS1; rw [getS_none hn]; exact putS_new hn
    rw [e, ih]
    · simp
    · simpa using h
theorem addS_old (e : Int) (U : List (Str × Int)) : ∀ B : List (Str × Int), ((B ++ U).map (·.1)).Nodup → (U.map fun p => (p.1, e)).foldl addS1 (B ++ U) = B ++ U.map fun p => (p.1, p.2 + e) := by
  induction U with
  | nil => intro B _; simp
  | cons p r ih =>
    intro B h
    obtain ⟨k, v⟩ := p
    have h' := h
    rw [List.map_append, List.map_cons] at h'
    obtain ⟨_, h2, h3⟩ := List.nodup_append.mp h'
    have hB : k ∉ B.map (·.1) := fun hm => h3 _ hm _ (.head _) rfl
    have hr : k ∉ r.map (·.1) := (List.nodup_cons.mp h2).1
    rw [List.map_cons, List.foldl_cons]
    have e1 : addS1 (B ++ (k, v) :: r) (k, e) = (B ++ [(k, v + e)]) ++ r := by
      unfold addS1
      dsimp only
      rw [getS_at hB]
      dsimp only
      rw [putS_at hB hr]
      simp
    dsimp only
    rw [e1, ih (B ++ [(k, v + e)])]
    · simp
    · simpa using h
theorem untilF_shift {d : Nat → Int} (r : List Nat) : ∀ c e : Int, untilF d (c + e) r = (untilF d c r).map fun p => (p.1, p.2 + e) := by
  induction r with
  | nil => intro c e; rfl
  | cons k r ih => intro c e; rw [untilF, untilF, List.map_cons, show c + e + d k = (c + d k) + e by lia  , ih]
theorem addS_glue {d : Nat → Int} {x y : List Nat} (hn : (x ++ y).Nodup) : addS (addS (untilF d 0 x) (untilF d 0 y)) (y.map fun k => (letter k, durL d x)) = untilF d 0 (x ++ y) := by
  have hk : ((untilF d 0 x ++ untilF d 0 y).map (·.1)).Nodup := by
    rw [List.map_append, untilF_keys, untilF_keys, ← List.map_append]
    exact map_letter_nodup hn
  have hx : ((([] : List (Str × Int)) ++ untilF d 0 x).map (·.1)).Nodup := by
    rw [List.nil_append, untilF_keys]
    exact map_letter_nodup (List.nodup_append.mp hn).1
  have e1 : addS (untilF d 0 x) (untilF d 0 y) = untilF d 0 x ++ untilF d 0 y := by
    unfold addS
    rw [copyS_is _ _ hx, List.nil_append, addS_new _ _ hk]
  have e2 : (y.map fun k => (letter k, durL d x)) = (untilF d 0 y).map fun p : Str × Int => (p.1, durL d x) := by
    have := congrArg (fun l : List Str => l.map fun s => (s, durL d x)) (untilF_keys (d := d) y 0)
    rw [List.map_map, List.map_map] at this
    exact this.symm
  rw [e1, e2]
  unfold addS
  rw [copyS_is _ _ (by simpa using hk), List.nil_append, addS_old _ _ _ hk, untilF_append, ← untilF_shift]
theorem rowStr_append (x y : List Nat) : rowStr x ++ rowStr y = rowStr (x ++ y) := by
  refine str_eq ?_
  rw [app_list]
  show (x.map (97 + ·)) ++ (y.map (97 + ·)) = (x ++ y).map (97 + ·)
  rw [List.map_append]
theorem rowStr_len (x : List Nat) : (rowStr x).length = x.length := by
  show (x.map (97 + ·)).toArray.size = _
  simp
/-- the block that a glueing makes -/
theorem blk_glue {w : World} {n : List (Addr × Obj)} {d wt : Nat → Int} {x y : List Nat} (hn : (x ++ y).Nodup) {T D : Addr} {o : Obj} {kD : List (Str × Value)} {t1 t2 t3 t4 : Tok}
    (mT : (T, tupO [.int (0 + ((y.length : Int) + (x.length : Int))) t1, .int (0 + (durL d y + durL d x)) t2, .int (0 + (durL wt y + durL wt x)) t3, .int (durL d x * durL wt y + (costF d wt 0 y + costF d wt 0 x)) t4, .ref D]) ∈ n) (mD : (D, o) ∈ n) (lo : (D == sysModules) = false)
    (hd : o.IsDictOf (KD w) kD) (cv : CV kD (addS (addS (untilF d 0 x) (untilF d 0 y)) (y.map fun k => (letter k, durL d x)))) : BlkAt w n d wt (x ++ y) (.ref T) := by
  rw [addS_glue hn] at cv
  refine ⟨T, D, o, kD, t1, t2, t3, t4, rfl, ?_, mD, lo, hd, cv⟩
  have e1 : ((x ++ y).length : Int) = 0 + ((y.length : Int) + (x.length : Int)) := by rw [List.length_append]; lia  
  have e2 : durL d (x ++ y) = 0 + (durL d y + durL d x) := by rw [durL_append]; lia  
  have e3 : durL wt (x ++ y) = 0 + (durL wt y + durL wt x) := by rw [durL_append]; lia  
  have e4 : costF d wt 0 (x ++ y) = durL d x * durL wt y + (costF d wt 0 y + costF d wt 0 x) := by rw [costF_two]; lia  
  rw [e1, e2, e3, e4]
  exact mT
end Mine
namespace Mine
theorem addS1_len (acc : List (Str × Int)) (p : Str × Int) : (addS1 acc p).length ≤ acc.length + 1 := by
  unfold addS1
  split <;> exact putS_length _ _ _
theorem foldl_len {f : List (Str × Int) → Str × Int → List (Str × Int)} (hf : ∀ a p, (f a p).length ≤ a.length + 1) (l : List (Str × Int)) : ∀ acc : List (Str × Int), (l.foldl f acc).length ≤ acc.length + l.length := by
  induction l with
  | nil => intro acc; simp
  | cons p r ih =>
    intro acc
    have h1 := ih (f acc p)
    have h2 := hf acc p
    rw [List.foldl_cons, List.length_cons]
    lia  
theorem addS_len {d : Nat → Int} {x y : List Nat} (hx : x.length ≤ 5) (hy : y.length ≤ 5) : (addS (untilF d 0 x) (untilF d 0 y)).length ≤ 500 := by
  unfold addS copyS
  have h1 := foldl_len addS1_len (untilF d 0 y) ((untilF d 0 x).foldl (fun a p => putS a p.1 p.2) [])
  have h2 := foldl_len (fun a p => putS_length a p.1 p.2) (untilF d 0 x) []
  rw [untilF_len] at h1 h2
  simp at h2
  lia  
end Mine

end
section -- P25
open PySem PySem.W PyProof.Rows
set_option maxRecDepth 100000
namespace Mine
theorem upper_upper : ∀ k < 5, Txt.upper (upper k) = upper k := by decide +kernel
theorem upper_txt {q : Nat × Bool} (h : q.1 < 5) : Txt.upper (txtK q) = upper q.1 := by
  unfold txtK
  split
  · exact upper_upper q.1 h
  · exact upper_letter q.1 h
/-- a pair as it stands; as it is after its forerunner was glued -/
noncomputable def pT (S : St) (q : Nat × Bool) : Str × Str := (txtK q, letter (S.par q.1))
noncomputable def pU (S : St) (p : Nat) (q : Nat × Bool) : Str × Str := (upper q.1, letter (S.par p))
/-- the pairs while the second loop runs -/
noncomputable def cur (S : St) (p : Nat) (dn rs : List (Nat × Bool)) : List (Str × Str) :=
  (dn.filter (fun q => S.par q.1 != p) ++ rs).map (pT S) ++ (dn.filter fun q => S.par q.1 == p).map (pU S p)
theorem cur_start {S : St} {p : Nat} {l : List (Nat × Bool)} : cur S p [] l = l.map (pT S) := by simp [cur]
theorem cur_end {S : St} {p : Nat} : cur S p (S.ps.filter fun q => q.1 != p) [] = pairsT (S.glue p) := by
  unfold cur pairsT St.glue
  rw [List.append_nil, List.map_append, List.map_map]
  refine congr (congrArg _ ?_) ?_
  · refine List.map_congr_left fun q hq => ?_
    have h := (List.mem_filter.mp hq).2
    have h' : S.par q.1 ≠ p := by simpa using h
    show (txtK q, letter (S.par q.1)) = (txtK q, letter (parG S.par p q.1))
    rw [parG_ne h']
  · refine List.map_congr_left fun q hq => ?_
    have h := (List.mem_filter.mp hq).2
    have h' : S.par q.1 = p := by simpa using h
    show (upper q.1, letter (S.par p)) = (txtK (q.1, true), letter (parG S.par p q.1))
    rw [parG_eq h']; rfl
theorem cur_keep {S : St} {p : Nat} {dn rs : List (Nat × Bool)} {q : Nat × Bool} (h : S.par q.1 ≠ p) : cur S p dn (q :: rs) = cur S p (dn ++ [q]) rs := by
  unfold cur
  have e1 : (S.par q.1 != p) = true := by simpa using h
  have e2 : (S.par q.1 == p) = false := by simpa using h
  simp [List.filter_append, List.filter_cons, e1, e2]
theorem low_pT {S : St} {q x : Nat × Bool} (hq : q.1 < 5) (hx : x.1 < 5) : (Txt.lower (pT S x).1 == Txt.lower (txtK q)) = decide (x.1 = q.1) := by
  show (Txt.lower (txtK x) == Txt.lower (txtK q)) = _
  rw [lower_txt hq, lower_txt hx, letter_beq]
theorem low_pU {S : St} {p : Nat} {q x : Nat × Bool} (hq : q.1 < 5) (hx : x.1 < 5) : (Txt.lower (pU S p x).1 == Txt.lower (txtK q)) = decide (x.1 = q.1) := by
  show (Txt.lower (upper x.1) == Txt.lower (txtK q)) = _
  rw [lower_txt hq, lower_upper x.1 hx, letter_beq]
theorem filter_all {α : Type} {l : List α} {f : α → Bool} (h : ∀ x ∈ l, f x = true) : l.filter f = l := List.filter_eq_self.mpr h
theorem cur_move {S : St} {p : Nat} {dn rs : List (Nat × Bool)} {q : Nat × Bool} (h : S.par q.1 = p) (h5 : ∀ x ∈ dn ++ q :: rs, x.1 < 5) (hn : ((dn ++ q :: rs).map (·.1)).Nodup) :
    (cur S p dn (q :: rs)).filter (fun x => !(Txt.lower x.1 == Txt.lower (Txt.upper (txtK q)))) ++ [pU S p q] = cur S p (dn ++ [q]) rs := by
  have hq5 : q.1 < 5 := h5 q (List.mem_append_right _ (.head _))
  have eu : Txt.lower (Txt.upper (txtK q)) = Txt.lower (txtK q) := by rw [upper_txt hq5, lower_upper q.1 hq5, lower_txt hq5]
  rw [List.map_append, List.map_cons] at hn
  obtain ⟨_, hn2, hn3⟩ := List.nodup_append.mp hn
  have offd : ∀ x ∈ dn, x.1 ≠ q.1 := fun x hx e => hn3 _ (List.mem_map_of_mem hx) _ (.head _) e
  have offr : ∀ x ∈ rs, x.1 ≠ q.1 := fun x hx e => (List.nodup_cons.mp hn2).1 (e ▸ List.mem_map_of_mem hx)
  have kT : ∀ l : List (Nat × Bool), (∀ x ∈ l, x ∈ dn ∨ x ∈ rs) → (l.map (pT S)).filter (fun x => !(Txt.lower x.1 == Txt.lower (txtK q))) = l.map (pT S) := fun l hl => filter_all fun y hy => by
    obtain ⟨x, hx, rfl⟩ := List.mem_map.mp hy
    rcases hl x hx with m | m
    · rw [low_pT hq5 (h5 x (List.mem_append_left _ m)), decide_eq_false (offd x m)]; rfl
    · rw [low_pT hq5 (h5 x (List.mem_append_right _ (.tail _ m))), decide_eq_false (offr x m)]; rfl
  have kU : ∀ l : List (Nat × Bool), (∀ x ∈ l, x ∈ dn) → (l.map (pU S p)).filter (fun x => !(Txt.lower x.1 == Txt.lower (txtK q))) = l.map (pU S p) := fun l hl => filter_all fun y hy => by
    obtain ⟨x, hx, rfl⟩ := List.mem_map.mp hy
    have m := hl x hx
    rw [low_pU hq5 (h5 x (List.mem_append_left _ m)), decide_eq_false (offd x m)]; rfl
  have e1 : (S.par q.1 != p) = false := by simpa using h
  have e2 : (S.par q.1 == p) = true := by simpa using h
  have eq0 : (Txt.lower (pT S q).1 == Txt.lower (txtK q)) = true := by rw [low_pT hq5 hq5]; simp
  rw [eu]
  unfold cur
  rw [List.map_append, List.map_cons, List.filter_append, List.filter_append, List.filter_cons, eq0]
  rw [kT (dn.filter _) fun x hx => .inl (List.mem_filter.mp hx).1, kT rs fun x hx => .inr hx, kU (dn.filter _) fun x hx => (List.mem_filter.mp hx).1]
  simp [List.filter_append, List.filter_cons, e1, e2]
theorem cur_find {S : St} {p : Nat} {dn rs : List (Nat × Bool)} {q : Nat × Bool} (h5 : ∀ x ∈ dn ++ q :: rs, x.1 < 5) (hn : ((dn ++ q :: rs).map (·.1)).Nodup) :
    (cur S p dn (q :: rs)).find? (fun x => Txt.lower x.1 == Txt.lower (txtK q)) = some (txtK q, letter (S.par q.1)) := by
  have hq5 : q.1 < 5 := h5 q (List.mem_append_right _ (.head _))
  rw [List.map_append, List.map_cons] at hn
  obtain ⟨_, _, hn3⟩ := List.nodup_append.mp hn
  unfold cur
  rw [List.map_append, List.map_cons, List.append_assoc, List.find?_append]
  have e0 : ((dn.filter fun q => S.par q.1 != p).map (pT S)).find? (fun x => Txt.lower x.1 == Txt.lower (txtK q)) = none := by
    rw [List.find?_eq_none]
    intro y hy
    obtain ⟨x, hx, rfl⟩ := List.mem_map.mp hy
    have m := (List.mem_filter.mp hx).1
    rw [low_pT hq5 (h5 x (List.mem_append_left _ m)), decide_eq_true_eq]
    exact fun e => hn3 _ (List.mem_map_of_mem m) _ (.head _) e
  have eq0 : (Txt.lower (pT S q).1 == Txt.lower (txtK q)) = true := by rw [low_pT hq5 hq5]; simp
  rw [e0, Option.none_or, List.cons_append, List.find?_cons, eq0]
  rfl
theorem cur_ok {S : St} {p : Nat} {dn rs : List (Nat × Bool)} (h : ∀ x ∈ dn ++ rs, x.1 < 5 ∧ S.par x.1 < 5) (hp : S.par p < 5) : OkP (cur S p dn rs) := by
  intro y hy
  rcases List.mem_append.mp hy with hy | hy
  · obtain ⟨x, hx, rfl⟩ := List.mem_map.mp hy
    have m : x ∈ dn ++ rs := (List.mem_append.mp hx).elim (fun h => List.mem_append_left _ (List.mem_filter.mp h).1) (List.mem_append_right _)
    exact ⟨okS_txt (h x m).1, okS_letter (h x m).2⟩
  · obtain ⟨x, hx, rfl⟩ := List.mem_map.mp hy
    exact ⟨okS_upper (h x (List.mem_append_left _ (List.mem_filter.mp hx).1)).1, okS_letter hp⟩
theorem cur_len {S : St} {p : Nat} {dn rs : List (Nat × Bool)} : (cur S p dn rs).length ≤ 2 * dn.length + rs.length := by
  unfold cur
  simp only [List.length_append, List.length_map]
  have h1 := List.length_filter_le (fun q : Nat × Bool => S.par q.1 != p) dn
  have h2 := List.length_filter_le (fun q : Nat × Bool => S.par q.1 == p) dn
  lia  
theorem pairs_del {S : St} {p : Nat} (hp5 : p < 5) (h5 : ∀ k ∈ S.ps.map (·.1), k < 5 ∧ S.par k < 5) : (pairsT S).filter (fun q => !(Txt.lower q.1 == Txt.lower (Txt.upper (letter p)))) = (S.ps.filter fun q => q.1 != p).map (pT S) := by
  have key : ∀ l : List (Nat × Bool), (∀ q ∈ l, q.1 < 5) → (l.map (pT S)).filter (fun q => !(Txt.lower q.1 == Txt.lower (Txt.upper (letter p)))) = (l.filter fun q => q.1 != p).map (pT S) := by
    intro l
    induction l with
    | nil => intro _; rfl
    | cons q r ih =>
      intro h
      have e0 : (Txt.lower (pT S q).1 == Txt.lower (Txt.upper (letter p))) = decide (q.1 = p) := by
        show (Txt.lower (txtK q) == Txt.lower (Txt.upper (letter p))) = _
        rw [lower_txt (h q (.head _)), upper_letter p hp5, lower_upper p hp5, letter_beq]
      rw [List.map_cons, List.filter_cons, List.filter_cons, e0, ih fun x hx => h x (.tail _ hx)]
      by_cases e : q.1 = p
      · simp [e]
      · simp [e]
  exact key S.ps fun q hq => (h5 q.1 (List.mem_map_of_mem hq)).1
end Mine
namespace Mine
theorem PL.inv {n : List (Addr × Obj)} {v : Value} {r : List Value} {p : Str × Str} {l : List (Str × Str)} (h : PL n (v :: r) (p :: l)) : ∃ t tk tv, v = .ref t ∧ (t, tupO [.str p.1 tk, .str p.2 tv]) ∈ n ∧ PL n r l := by
  cases h with
  | cons h hr => exact ⟨_, _, _, rfl, h, hr⟩
theorem PL.nil_inv {n : List (Addr × Obj)} {v : Value} {r : List Value} (h : PL n (v :: r) []) : False := by cases h
theorem glue_pairs {S : St} {p : Nat} : pairsT (S.glue p) = ((S.ps.filter (fun q => q.1 != p)).filter (fun q => S.par q.1 != p)).map (pT S) ++ ((S.ps.filter (fun q => q.1 != p)).filter (fun q => S.par q.1 == p)).map (pU S p) := by
  rw [← cur_end, cur, List.append_nil]
end Mine
namespace Mine
theorem strs_ok {l : List (Str × Str)} (h : OkP l) : ∀ d ∈ (l.map (·.1)).map Dat.str, kqdOk 8 d = true := by
  intro d hd
  obtain ⟨x, hx, rfl⟩ := List.mem_map.mp hd
  obtain ⟨p, hp, rfl⟩ := List.mem_map.mp hx
  simp [kqdOk, strOk_of (h p hp).1.1]
end Mine
namespace Mine
theorem glue_len {S : St} {p : Nat} (hn : (S.ps.map (·.1)).Nodup) (hn2 : ((S.glue p).ps.map (·.1)).Nodup) (hp : p ∈ S.ps.map (·.1)) : (S.glue p).ps.length + 1 = S.ps.length := by
  have h1 := nodup_sub (p :: (S.glue p).ps.map (·.1)) (S.ps.map (·.1)) (List.nodup_cons.mpr ⟨fun h => (glue_names.mp h).1 rfl, hn2⟩) fun k hk => by
    rcases List.mem_cons.mp hk with rfl | hk
    · exact hp
    · exact (glue_names.mp hk).2
  have h2 := nodup_sub (S.ps.map (·.1)) (p :: (S.glue p).ps.map (·.1)) hn fun k hk => by
    by_cases e : k = p
    · exact e ▸ .head _
    · exact .tail _ (glue_names.mpr ⟨e, hk⟩)
  simp only [List.length_cons, List.length_map] at h1 h2
  lia  
end Mine
namespace Mine
theorem SL.len {vs : List Value} {l : List Str} (h : SL vs l) : vs.length = l.length := by
  induction h with
  | nil => rfl
  | cons _ ih => simp [ih]
end Mine

end
section -- P26
open PySem PySem.W PyProof.Rows
set_option maxRecDepth 100000
namespace Mine
/-- what an item of a comprehension over a range leaves -/
noncomputable def CTr (h₀ : Heap) (L : Addr) (m : Str → Option Value) (s : Shared) (I : Addr) (oI : Obj) (C : Addr) (oC : Obj) (D : Addr) (oD : Obj) (J : Value → List (Addr × Obj) → Prop) (y : Value) (s' : Shared) : Prop :=
  ∃ h' tk n', s' = { s with heap := h', toks := tk } ∧ Fr h₀ L h' m ∧ News h₀ L h' ((I, oI) :: (C, oC) :: (D, oD) :: n') ∧ LCg.Off3 I C D n' ∧ J y n'
theorem CTr.mk {h₀ : Heap} {L I C D : Addr} {m : Str → Option Value} {s : Shared} {oI oC oD : Obj} {J : Value → List (Addr × Obj) → Prop} {y : Value} {h' : Heap} {tk : Nat} {n' : List (Addr × Obj)}
    (F : Fr h₀ L h' m) (N : News h₀ L h' ((I, oI) :: (C, oC) :: (D, oD) :: n')) (off : LCg.Off3 I C D n') (hJ : J y n') : CTr h₀ L m s I oI C oC D oD J y { s with heap := h', toks := tk } := ⟨h', tk, n', rfl, F, N, off, hJ⟩
section
variable {prog : Program} {w : World} {A : Around} {E : Value → Shared → Prop} {s : Shared} {h₀ : Heap} {L : Addr} {m : Str → Option Value} {env : Env} {elt : Expr} {scope : Scope} {cl : List (Str × Addr)}
theorem cl_rest_R {x : Str} {nn : Nat} (J : Nat → List Value → List (Addr × Obj) → Prop) {Fin : List Value → List (Addr × Obj) → Prop}
    (turn : ∀ (i : Nat) t ys n I oI C oC D m₂ h tk (E' : Value → Shared → Prop), i < nn → J i ys n → LCg.NsObj oC m₂ → m₂ x = some (.int (i : Int) t) → Fr h₀ L h m → News h₀ L h ((I, oI) :: (C, oC) :: (D, LCg.lst ys) :: n) → LCg.Off3 I C D n → ((@Ne Nat I C) ∧ (@Ne Nat I D) ∧ (@Ne Nat C D)) →
      wpAny (model prog w) A (eval elt (compEnvC scope cl C env)) (CTr h₀ L m { s with heap := h, toks := tk } I oI C oC D (LCg.lst ys) (fun y n' => J (i + 1) (ys ++ [y]) n')) E' { s with heap := h, toks := tk })
    (done : ∀ ys n, J nn ys n → Fin ys n) : ∀ (q i : Nat) (ys : List Value) (n : List (Addr × Obj)), i + q = nn → J i ys n →
    LCg.CompRest prog w A h₀ L m env elt x scope cl s (fun _ => True) (fun i v => ∃ t, v = .int ((0 : Int) + (i : Int)) t) Fin q i ys n := by
  intro q
  induction q with
  | zero =>
    intro i ys n e hJ
    have e' : i = nn := by lia  
    subst e'
    exact LCg.CompRest.zero (done ys n hJ)
  | succ q ih =>
    intro i ys n e hJ
    refine LCg.CompRest.succ fun v I oI C oC D m₂ h tk E' hv hC hx F N off ne => ?_
    obtain ⟨t, rfl⟩ := hv
    rw [Int.zero_add] at hx
    refine wpAny_mono (turn i t ys n I oI C oC D m₂ h tk E' (by lia  ) hJ hC hx F N off ne) (fun y s' h' => ?_) fun _ _ e => e
    obtain ⟨h1, tk1, n', rfl, F', N', off', hJ'⟩ := h'
    exact ⟨h1, tk1, n', rfl, F', N', off', trivial, ih (i + 1) _ n' (by lia  ) hJ'⟩
theorem src_R {x : Str} {r : Addr} {b : Int} {t u v : Tok} {nn : Nat} {news : List (Addr × Obj)} {Fin : Shared → List Value → List (Addr × Obj) → Prop} (J : Nat → List Value → List (Addr × Obj) → Prop)
    (hh : A.handled = none) (F : Fr h₀ L s.heap m) (N : News h₀ L s.heap news) (hr : IsRange s.heap r 0 b 1 t u v) (hsm : Builtin.Range.small 0 b 1 = true) (hn : Builtin.Range.rangeSize 0 b 1 = ((nn : Nat) : Int)) (hsz : nn ≤ sizeLine) (hJ : J 0 [] news)
    (turn : ∀ s' : Shared, (∃ g, s' = { s with heap := g }) → ∀ (i : Nat) t ys n I oI C oC D m₂ h tk (E' : Value → Shared → Prop), i < nn → J i ys n → LCg.NsObj oC m₂ → m₂ x = some (.int (i : Int) t) → Fr h₀ L h m → News h₀ L h ((I, oI) :: (C, oC) :: (D, LCg.lst ys) :: n) → LCg.Off3 I C D n → ((@Ne Nat I C) ∧ (@Ne Nat I D) ∧ (@Ne Nat C D)) →
      wpAny (model prog w) A (eval elt (compEnvC scope cl C env)) (CTr h₀ L m { s' with heap := h, toks := tk } I oI C oC D (LCg.lst ys) (fun y n' => J (i + 1) (ys ++ [y]) n')) E' { s' with heap := h, toks := tk })
    (done : ∀ g ys n, J nn ys n → Fin { s with heap := g } ys n) :
    LCg.CompSrc prog w A h₀ L m env elt x scope cl Fin (.ref r) s :=
  LCg.CompSrc.range hh F N hr hsm hn hsz fun g => cl_rest_R J (turn _ ⟨g, rfl⟩) (done g) _ 0 [] news (by simp) hJ
end
end Mine
namespace Mine
theorem ints_at {vs : List Value} {ns : List Int} (h : IntsAre vs ns) : ∀ {k : Nat} {v : Value}, vs[k]? = some v → ∃ z t, v = .int z t := by
  induction h with
  | nil => intro k v e; simp at e
  | cons n t _ ih =>
    intro k v e
    cases k with
    | zero => exact ⟨n, t, by simpa using e.symm⟩
    | succ k => exact ih (by simpa using e)
theorem ints_pick {vs : List Value} {ns : List Int} (h : IntsAre vs ns) : ∀ ks : List Nat, ∃ ms, IntsAre (ks.filterMap (vs.toArray[·]?)) ms
  | [] => ⟨[], .nil⟩
  | k :: ks => by
    obtain ⟨ms, hm⟩ := ints_pick h ks
    cases e : vs.toArray[k]? with
    | none => exact ⟨ms, by rw [List.filterMap_cons, e]; exact hm⟩
    | some v =>
      rw [List.getElem?_toArray] at e
      obtain ⟨z, t, rfl⟩ := ints_at h e
      exact ⟨z :: ms, by rw [List.filterMap_cons, List.getElem?_toArray, e]; exact .cons z t hm⟩
end Mine
namespace Mine
/-- the seven cells, written out -/
theorem seven {ys : List Value} {cs : List Int} (h : IntsAre ys cs) (hl : cs.length = 7) : ∃ (c : Nat → Int) (t : Nat → Tok), ys = [.int (c 0) (t 0), .int (c 1) (t 1), .int (c 2) (t 2), .int (c 3) (t 3), .int (c 4) (t 4), .int (c 5) (t 5), .int (c 6) (t 6)] := by
  have hy : ys.length = 7 := by
    have : ∀ {a : List Value} {b : List Int}, IntsAre a b → a.length = b.length := by
      intro a b hab
      induction hab with
      | nil => rfl
      | cons _ _ _ ih => simp [ih]
    rw [this h, hl]
  have at_ : ∀ k < 7, ∃ z t, ys[k]? = some (.int z t) := fun k hk => by
    obtain ⟨z, t, e⟩ := ints_at h (k := k) (v := ys[k]'(by lia  )) (List.getElem?_eq_getElem _)
    exact ⟨z, t, by rw [List.getElem?_eq_getElem (by lia  ), e]⟩
  refine ⟨fun k => if h : k < 7 then (at_ k h).choose else 0, fun k => if h : k < 7 then (at_ k h).choose_spec.choose else 0, ?_⟩
  refine List.ext_getElem? fun k => ?_
  rcases Nat.lt_or_ge k 7 with q | q
  · rw [(at_ k q).choose_spec.choose_spec]
    have : k = 0 ∨ k = 1 ∨ k = 2 ∨ k = 3 ∨ k = 4 ∨ k = 5 ∨ k = 6 := by clear at_ h hl hy; lia
    rcases this with e | e | e | e | e | e | e <;> (subst e; rfl)
  · rw [List.getElem?_eq_none (by lia  ), List.getElem?_eq_none (by simpa using q)]
end Mine
namespace Mine
/-- the jobs made so far -/
noncomputable def JobsUp (X : List (Addr × Obj)) (ys : List Value) (d w : Nat → Int) (b : Nat → Nat) (i : Nat) : Prop := ys.length = i ∧ ∀ k < i, ∃ t, ys[k]? = some (.ref t) ∧ JobAt X t (d k) (w k) (b k)
theorem JobsUp.nil {X : List (Addr × Obj)} {d w : Nat → Int} {b : Nat → Nat} : JobsUp X [] d w b 0 := ⟨rfl, fun _ h => absurd h (Nat.not_lt_zero _)⟩
theorem JobsUp.snoc {X X' : List (Addr × Obj)} {ys : List Value} {d w : Nat → Int} {b : Nat → Nat} {i : Nat} {t : Addr} (h : JobsUp X ys d w b i) (k : ∀ p ∈ X, p ∈ X') (j : JobAt X' t (d i) (w i) (b i)) : JobsUp X' (ys ++ [.ref t]) d w b (i + 1) := by
  refine ⟨by simp [h.1], fun q hq => ?_⟩
  by_cases e : q = i
  · subst e; exact ⟨t, by rw [← h.1]; simp, j⟩
  · obtain ⟨t', e1, e2⟩ := h.2 q (by lia  )
    exact ⟨t', by rw [List.getElem?_append_left (by rw [h.1]; lia  )]; exact e1, e2.mono k⟩
theorem JobsUp.all {X n : List (Addr × Obj)} {ys : List Value} {d w : Nat → Int} {b : Nat → Nat} {JL : Addr} {ep : Nat} (h : JobsUp X ys d w b 5) (k : ∀ p ∈ X, p ∈ n) (m : (JL, lstO ys ep) ∈ n) : JobsAt n JL d w b := by
  obtain ⟨hl, h⟩ := h
  obtain ⟨t0, e0, j0⟩ := h 0 (by decide)
  obtain ⟨t1, e1, j1⟩ := h 1 (by decide)
  obtain ⟨t2, e2, j2⟩ := h 2 (by decide)
  obtain ⟨t3, e3, j3⟩ := h 3 (by decide)
  obtain ⟨t4, e4, j4⟩ := h 4 (by decide)
  have e : ys = [.ref t0, .ref t1, .ref t2, .ref t3, .ref t4] := by
    refine List.ext_getElem? fun q => ?_
    rcases Nat.lt_or_ge q 5 with k5 | k5
    · exact lt5 (P := fun q => ys[q]? = [Value.ref t0, .ref t1, .ref t2, .ref t3, .ref t4][q]?) e0 e1 e2 e3 e4 q k5
    · rw [List.getElem?_eq_none (by rw [hl]; exact k5), List.getElem?_eq_none k5]
  subst e
  exact ⟨t0, t1, t2, t3, t4, ep, m, j0.mono k, j1.mono k, j2.mono k, j3.mono k, j4.mono k⟩
end Mine

end
section -- P27
open PySem PySem.W PyProof.Rows
set_option maxRecDepth 100000
namespace Mine
open PySem.SeqAt
/-- two tuples of one length whose items are alike, pair by pair, are not unlike -/
theorem ne_tups {prog : Program} {w : World} {A : Around} {E : Value → Shared → Prop} {s : Shared} {l b : Addr} {xs ys : Array Value} {Q : Value → Shared → Prop} (hl : s.heap.IsTuple l xs) (hb : s.heap.IsTuple b ys) (hu : A.units < cLine) (hs : xs.size = ys.size)
    (he : ∀ j (h1 : j < xs.size) (h2 : j < ys.size), ∀ (E : Value → Shared → Prop) (Q : Bool → Shared → Prop), Q true s → wpAny (model prog w) A.in1 (eqBool xs[j] ys[j]) Q E s) (h : Q (.bool false) s) :
    wpAny (model prog w) A (compareOp .NotEq (.ref l) (.ref b)) Q E s := by
  obtain ⟨⟨cls, dd, data, sl⟩, ho, hc, n, hd⟩ := id hl
  obtain ⟨⟨cls2, dd2, data2, sl2⟩, ho2, hc2, n2, hd2⟩ := id hb
  simp only at hc hd hc2 hd2
  subst hc hd hc2 hd2
  refine wpAny_richCompare_same_room (op := .NotEq) ⟨_, ho, rfl⟩ ⟨_, ho2, rfl⟩ PySem.F.slot_tuple_ne (wpAny_call_entry PySem.F.slot_tuple_ne ⟨_, ho, rfl⟩ PySem.F.entry_tuple_ne ?_ (PySem.F.args_tuple_ne_2 _ _)) hu
  have f2 := AutoSeq1.sub_tuple_tuple
  obtain ⟨hp, g, d, tk, os⟩ := s
  have key : ∀ i (hi : i < (xs.toList.zip ys.toList).length), ∀ (E : Value → Shared → Prop) (Q : Bool → Shared → Prop), Q true ⟨hp, g, d, tk, os⟩ → wpAny (model prog w) A.in1 (eqBool (xs.toList.zip ys.toList)[i].1 (xs.toList.zip ys.toList)[i].2) Q E ⟨hp, g, d, tk, os⟩ := by
    intro i hi E Q hq
    have hi' : i < xs.size ∧ i < ys.size := by rw [List.length_zip, Array.length_toList, Array.length_toList] at hi; lia  
    have := he i hi'.1 hi'.2 E Q hq
    simpa using this
  dsimp only at ho ho2
  wp_walk using AutoSeq1.wpAny_loadPart' ho, AutoSeq1.wpAny_loadPart' ho2, wpAny_forIn_list _ (fun rest b s' => b.1 = none ∧ s' = ⟨hp, g, d, tk, os⟩ ∧ ∃ i, rest = (xs.toList.zip ys.toList).drop i) _
  case turn =>
    rintro x rest c s' ⟨hc, rfl, i, hz⟩
    have hlt : i < (xs.toList.zip ys.toList).length := by
      rcases Nat.lt_or_ge i (xs.toList.zip ys.toList).length with q | q
      · exact q
      · rw [List.drop_of_length_le q] at hz; cases hz
    rw [List.drop_eq_getElem_cons hlt] at hz
    injection hz with e1 e2
    subst e1
    refine wpAny_bind (key i hlt _ _ ?_)
    wp_walk
    exact ⟨rfl, rfl, i + 1, e2⟩
  case fin =>
    rintro ⟨b1, b2⟩ s' ⟨hc, rfl, _⟩
    simp only at hc
    subst hc
    wp_walk
    exact ⟨_, rfl, (fun x => nomatch x), by simpa [Builtin.Tuple.tupleCompareSizes, hs] using h⟩
  case h => exact ⟨rfl, rfl, 0, rfl⟩
theorem cv_getS {l : List (Str × Int)} (hn : (l.map (·.1)).Nodup) : ∀ p ∈ l, getS l p.1 = some p.2 := by
  induction l with
  | nil => intro p hp; cases hp
  | cons q r ih =>
    intro p hp
    rw [List.map_cons, List.nodup_cons] at hn
    unfold getS
    rw [List.find?_cons]
    rcases List.mem_cons.mp hp with rfl | hp
    · simp
    · have : q.1 ≠ p.1 := fun e => hn.1 (by rw [e]; exact List.mem_map_of_mem hp)
      rw [decide_eq_false this]
      exact ih hn.2 p hp
theorem CV.keys {a : List (Str × Value)} {b : List (Str × Int)} (h : CV a b) : a.map (·.1) = b.map (·.1) := by
  induction h with
  | nil => rfl
  | cons _ ih => rw [List.map_cons, List.map_cons, ih]
theorem cv_hits {A : Around} {s : Shared} {kb : List (Str × Value)} {l' : List (Str × Int)} (hb : CV kb l') {ka : List (Str × Value)} {l : List (Str × Int)} (ha : CV ka l) : (∀ p ∈ l, getS l' p.1 = some p.2) → KeqHits A s kb ka true := by
  induction ha with
  | nil => intro _; exact .nil
  | @cons k n t r l _ ih =>
    intro h
    have e := h (k, n) (.head _)
    rcases hb.at (k := k) with ⟨n', t', e1, e2⟩ | ⟨_, e2⟩
    · rw [e2] at e
      have e3 : n' = n := Option.some.inj e
      subst e3
      have := KeqHits.hit (A := A) (s := s) (r := r) (b := true) e1 (EqAt.int_int n' t n' t') (ih fun p hp => h p (.tail _ hp))
      simpa using this
    · rw [e2] at e; cases e
/-- two dicts of the same numbers -/
theorem eqb_dicts {prog : Program} {w : World} {A : Around} {E : Value → Shared → Prop} {s : Shared} {h₀ : Heap} {L : Addr} {news : List (Addr × Obj)} {a b : Addr} {oa ob : Obj} {ka kb : List (Str × Value)} {l : List (Str × Int)} {Q : Bool → Shared → Prop}
    (N : News h₀ L s.heap news) (pa : (a, oa) ∈ news) (pb : (b, ob) ∈ news) (da : oa.IsDictOf (PySem.strKind prog w) ka) (db : ob.IsDictOf (PySem.strKind prog w) kb) (la : (a == sysModules) = false) (lb : (b == sysModules) = false) (ca : CV ka l) (cb : CV kb l) (hne : a ≠ b) (hu : A.units < cLine) (h : Q true s) :
    wpAny (model prog w) A (eqBool (.ref a) (.ref b)) Q E s := by
  unfold eqBool
  refine wpAny_holding ?_
  refine wpAny_ite_split (fun hab => absurd (by have := eq_of_beq hab; injection this) hne) (fun _ => ?_)
  have hn : (l.map (·.1)).Nodup := by
    obtain ⟨_, _, _, _, _, _, hn⟩ := da
    rw [ca.keys] at hn; exact hn
  refine wpAny_bind ?_
  exact keq_pairs (knd := PySem.strKind prog w) N pa pb da db la lb (by rw [ca.length, cb.length]) hu (cv_hits cb ca (cv_getS hn)) (wpAny_truthy_bool h)
theorem eqb_int {prog : Program} {w : World} {A : Around} {E : Value → Shared → Prop} {s : Shared} {n n' : Int} {t u : Tok} {Q : Bool → Shared → Prop} (e : n = n') (h : Q true s) : wpAny (model prog w) A (eqBool (.int n t) (.int n' u)) Q E s := by
  subst e
  exact EqAt.int_int n t n u prog w E Q (by simpa using h)
/-- a block and what was told of its row -/
theorem ne_block {prog : Program} {w : World} {A : Around} {E : Value → Shared → Prop} {s : Shared} {h₀ : Heap} {L : Addr} {news : List (Addr × Obj)} {T T' a b : Addr} {oa ob : Obj} {ka kb : List (Str × Value)} {l : List (Str × Int)} {Q : Value → Shared → Prop}
    {x1 x2 x3 x4 y1 y2 y3 y4 : Int} {t1 t2 t3 t4 u1 u2 u3 u4 : Tok} (N : News h₀ L s.heap news) (mT : (T, tupO [.int x1 t1, .int x2 t2, .int x3 t3, .int x4 t4, .ref a]) ∈ news) (mT' : (T', tupO [.int y1 u1, .int y2 u2, .int y3 u3, .int y4 u4, .ref b]) ∈ news)
    (pa : (a, oa) ∈ news) (pb : (b, ob) ∈ news) (da : oa.IsDictOf (PySem.strKind prog w) ka) (db : ob.IsDictOf (PySem.strKind prog w) kb) (la : (a == sysModules) = false) (lb : (b == sysModules) = false) (ca : CV ka l) (cb : CV kb l) (hne : a ≠ b) (e1 : x1 = y1) (e2 : x2 = y2) (e3 : x3 = y3) (e4 : x4 = y4) (hu : A.units + 64 < cLine) (h : Q (.bool false) s) :
    wpAny (model prog w) A (compareOp .NotEq (.ref T) (.ref T')) Q E s := by
  refine ne_tups (News.isTup N mT) (News.isTup N mT') (by lia  ) rfl (fun j h1 h2 E Q hq => ?_) h
  have hj : j < 5 := h1
  have : j = 0 ∨ j = 1 ∨ j = 2 ∨ j = 3 ∨ j = 4 := lt5 (P := fun j => j = 0 ∨ j = 1 ∨ j = 2 ∨ j = 3 ∨ j = 4) (.inl rfl) (.inr (.inl rfl)) (.inr (.inr (.inl rfl))) (.inr (.inr (.inr (.inl rfl)))) (.inr (.inr (.inr (.inr rfl)))) j hj
  rcases this with rfl | rfl | rfl | rfl | rfl
  · exact eqb_int e1 hq
  · exact eqb_int e2 hq
  · exact eqb_int e3 hq
  · exact eqb_int e4 hq
  · exact eqb_dicts N pa pb da db la lb ca cb hne (by rw [units_in1]; lia  ) hq
end Mine

end
section -- P28
open PySem PySem.W PyProof.Rows
set_option maxRecDepth 100000
namespace Mine
open PySem.Builtin.Int (intBits)
noncomputable def big3 : Int := 3 ^ 2700
theorem big3_is : (3 : Int) ^ Int.toNat 2700 = big3 := congrArg (fun n : Nat => (3 : Int) ^ n) (show Int.toNat 2700 = 2700 from rfl)
theorem cast3 (k : Nat) : ((3 ^ k : Nat) : Int) = (3 : Int) ^ k := by
  induction k with
  | zero => rfl
  | succ k ih => rw [Nat.pow_succ, Int.pow_succ, ← ih]; rfl
theorem big3_nat : 2 ^ 4279 ≤ 3 ^ 2700 ∧ 3 ^ 2700 < 2 ^ 4280 := by decide +kernel
theorem big3_lo : (2 : Int) ^ 4279 ≤ big3 := by
  unfold big3
  rw [← kbt_cast, ← cast3]
  exact Int.ofNat_le.mpr big3_nat.1
theorem big3_hi : big3 < (2 : Int) ^ 4280 := by
  unfold big3
  rw [← kbt_cast, ← cast3]
  exact Int.ofNat_lt.mpr big3_nat.2
theorem big3_pos : 0 < big3 := Int.lt_of_lt_of_le (kbt_pos 4279) big3_lo
theorem great_is {x : Int} : 0 < big3 + x % big3 ∧ 4200 ≤ intBits (big3 + x % big3) ∧ intBits (big3 + x % big3) ≤ 4300 := by
  have h0 := big3_pos
  have h1 := Int.emod_nonneg x (show big3 ≠ 0 by lia  )
  have h2 := Int.emod_lt_of_pos x h0
  refine ⟨by lia  , ?_, ?_⟩
  · rcases Nat.lt_or_ge (intBits (big3 + x % big3)) 4200 with q | q
    · have a1 := lt_of_bits (Nat.le_of_lt q)
      have a2 := big3_lo
      have a3 : (2 : Int) ^ 4200 ≤ 2 ^ 4279 := by
        rw [← kbt_cast, ← kbt_cast]
        exact Int.ofNat_le.mpr (Nat.pow_le_pow_right (by decide) (by decide))
      lia  
    · exact q
  · refine bits_of_lt (by lia  ) ?_
    have a1 := big3_hi
    have a2 : (2 : Int) ^ 4280 * 2 ≤ 2 ^ 4300 := by
      rw [← Int.pow_succ, ← kbt_cast, ← kbt_cast]
      exact Int.ofNat_le.mpr (Nat.pow_le_pow_right (by decide) (by decide))
    lia  
end Mine

end
section -- P29
open PySem PySem.W PyProof.Rows
set_option maxRecDepth 100000
namespace Mine
open PySem.Builtin.Int (intBits)
section
variable {prog : Program} {w : World} {A : Around} {E : Value → Shared → Prop} {s : Shared} {h₀ : Heap} {L : Addr} {news : List (Addr × Obj)} {Q : Value → Shared → Prop}
theorem fmod_two (x : Int) : x.fmod 2 = 0 ∨ x.fmod 2 = 1 := by rw [Int.fmod_eq_emod_of_nonneg _ (by decide)]; lia  
/-- one of two numbers, by a rest -/
theorem pick2 {value slice : PySem.Expr} {l : Addr} {a b : Int} {ta tb u : Tok} {ep : Nat} {x : Int} (N : News h₀ L s.heap news) (hm : (l, listOf #[.int a ta, .int b tb] ep) ∈ news)
    (h : ∀ z t, (z = a ∨ z = b) → Q (.int z t) s)
    (hs : subscripted slice false (.ref l) (.int (x.fmod 2) u) = operate [.ref l, .int (x.fmod 2) u] (getItem (.ref l) (.int (x.fmod 2) u)) := by with_unfolding_all rfl) :
    wpAny (model prog w) A (subscriptTail value slice (.ref l) (.int (x.fmod 2) u)) Q E s := by
  have hl : s.heap.IsList l #[.int a ta, .int b tb] := News.isList N hm
  have h2 := fmod_two x
  refine tail_any hl.typeIs PySem.slot_list_getitem.lookup ?_ hs
  rcases h2 with e | e
  · rw [e]; exact wpAny_getItem_list hl (by decide) (by decide) rfl (h a ta (.inl rfl))
  · rw [e]; exact wpAny_getItem_list hl (by decide) (by decide) rfl (h b tb (.inr rfl))
theorem pow_big3 {t u : Tok} (h : Q (.int big3 s.toks) { s with toks := s.toks + 1 }) : wpAny (model prog w) A (binaryOp .Pow (.int 3 t) (.int 2700 u)) Q E s :=
  pow_int (by decide) (by decide) (by rw [big3_is]; exact h)
theorem mod_big3 {x : Int} {t u : Tok} (h : Q (.int (x % big3) s.toks) { s with toks := s.toks + 1 }) : wpAny (model prog w) A (binaryOp .Mod (.int x t) (.int big3 u)) Q E s :=
  mod_int' (Int.ne_of_gt big3_pos) (by rw [Int.fmod_eq_emod_of_nonneg _ (Int.le_of_lt big3_pos)]; exact h)
theorem add_great {x : Int} {t u : Tok} (h : ∀ gr t k, 0 < gr → 4200 ≤ intBits gr → intBits gr ≤ 4300 → Q (.int gr t) { s with toks := k }) : wpAny (model prog w) A (binaryOp .Add (.int big3 t) (.int (x % big3) u)) Q E s :=
  add_int (h _ _ _ great_is.1 great_is.2.1 great_is.2.2)
theorem mod_great {x gr : Int} {t u : Tok} (h0 : 0 < gr) (h : ∀ lo t k, 0 ≤ lo → lo < gr → Q (.int lo t) { s with toks := k }) : wpAny (model prog w) A (binaryOp .Mod (.int x t) (.int gr u)) Q E s :=
  mod_int' (Int.ne_of_gt h0) (by rw [Int.fmod_eq_emod_of_nonneg _ (Int.le_of_lt h0)]; exact h _ _ _ (Int.emod_nonneg _ (Int.ne_of_gt h0)) (Int.emod_lt_of_pos _ h0))
end
end Mine

end
section -- P30
open PySem PySem.W PyProof.Rows
set_option maxRecDepth 100000
namespace Mine
section
variable {prog : Program} {w : World} {A : Around} {E : Value → Shared → Prop} {s : Shared} {h₀ : Heap} {L : Addr} {m : Str → Option Value} {env : Env} {elt : Expr} {scope : Scope} {cl : List (Str × Addr)}
theorem cl_rest_R1 {x : Str} {nn : Nat} (J : Nat → List Value → List (Addr × Obj) → Prop) {Fin : List Value → List (Addr × Obj) → Prop}
    (turn : ∀ (i : Nat) t ys n I oI C oC D m₂ h tk (E' : Value → Shared → Prop), i < nn → J i ys n → LCg.NsObj oC m₂ → m₂ x = some (.int ((i + 1 : Nat) : Int) t) → Fr h₀ L h m → News h₀ L h ((I, oI) :: (C, oC) :: (D, LCg.lst ys) :: n) → LCg.Off3 I C D n → ((@Ne Nat I C) ∧ (@Ne Nat I D) ∧ (@Ne Nat C D)) →
      wpAny (model prog w) A (eval elt (compEnvC scope cl C env)) (CTr h₀ L m { s with heap := h, toks := tk } I oI C oC D (LCg.lst ys) (fun y n' => J (i + 1) (ys ++ [y]) n')) E' { s with heap := h, toks := tk })
    (done : ∀ ys n, J nn ys n → Fin ys n) : ∀ (q i : Nat) (ys : List Value) (n : List (Addr × Obj)), i + q = nn → J i ys n →
    LCg.CompRest prog w A h₀ L m env elt x scope cl s (fun _ => True) (fun i v => ∃ t, v = .int ((1 : Int) + (i : Int)) t) Fin q i ys n := by
  intro q
  induction q with
  | zero =>
    intro i ys n e hJ
    have e' : i = nn := by lia  
    subst e'
    exact LCg.CompRest.zero (done ys n hJ)
  | succ q ih =>
    intro i ys n e hJ
    refine LCg.CompRest.succ fun v I oI C oC D m₂ h tk E' hv hC hx F N off ne => ?_
    obtain ⟨t, rfl⟩ := hv
    have e1 : (1 : Int) + (i : Int) = ((i + 1 : Nat) : Int) := by lia  
    rw [e1] at hx
    refine wpAny_mono (turn i t ys n I oI C oC D m₂ h tk E' (by lia  ) hJ hC hx F N off ne) (fun y s' h' => ?_) fun _ _ e => e
    obtain ⟨h1, tk1, n', rfl, F', N', off', hJ'⟩ := h'
    exact ⟨h1, tk1, n', rfl, F', N', off', trivial, ih (i + 1) _ n' (by lia  ) hJ'⟩
theorem src_R1 {x : Str} {r : Addr} {b : Int} {t u v : Tok} {nn : Nat} {news : List (Addr × Obj)} {Fin : Shared → List Value → List (Addr × Obj) → Prop} (J : Nat → List Value → List (Addr × Obj) → Prop)
    (hh : A.handled = none) (F : Fr h₀ L s.heap m) (N : News h₀ L s.heap news) (hr : IsRange s.heap r 1 b 1 t u v) (hsm : Builtin.Range.small 1 b 1 = true) (hn : Builtin.Range.rangeSize 1 b 1 = ((nn : Nat) : Int)) (hsz : nn ≤ sizeLine) (hJ : J 0 [] news)
    (turn : ∀ s' : Shared, (∃ g, s' = { s with heap := g }) → ∀ (i : Nat) t ys n I oI C oC D m₂ h tk (E' : Value → Shared → Prop), i < nn → J i ys n → LCg.NsObj oC m₂ → m₂ x = some (.int ((i + 1 : Nat) : Int) t) → Fr h₀ L h m → News h₀ L h ((I, oI) :: (C, oC) :: (D, LCg.lst ys) :: n) → LCg.Off3 I C D n → ((@Ne Nat I C) ∧ (@Ne Nat I D) ∧ (@Ne Nat C D)) →
      wpAny (model prog w) A (eval elt (compEnvC scope cl C env)) (CTr h₀ L m { s' with heap := h, toks := tk } I oI C oC D (LCg.lst ys) (fun y n' => J (i + 1) (ys ++ [y]) n')) E' { s' with heap := h, toks := tk })
    (done : ∀ g ys n, J nn ys n → Fin { s with heap := g } ys n) :
    LCg.CompSrc prog w A h₀ L m env elt x scope cl Fin (.ref r) s :=
  LCg.CompSrc.range hh F N hr hsm hn hsz fun g => cl_rest_R1 J (turn _ ⟨g, rfl⟩) (done g) _ 0 [] news (by simp) hJ
end
/-- the pairs made so far -/
noncomputable def pairsUp (b : Nat → Nat) (i : Nat) : List (Str × Str) := (List.range i).map fun j => (letter (j + 1), letter (b (j + 1)))
theorem pairsUp_snoc {b : Nat → Nat} {i : Nat} : pairsUp b (i + 1) = pairsUp b i ++ [(letter (i + 1), letter (b (i + 1)))] := by
  unfold pairsUp; rw [List.range_succ, List.map_append]; rfl
theorem pairsUp_four {b : Nat → Nat} : pairsUp b 4 = pairsT (St.start b) := rfl
theorem PL.snoc {n n' : List (Addr × Obj)} {vs : List Value} {l : List (Str × Str)} {t : Addr} {x y : Str} {u1 u2 : Tok} (h : PL n vs l) (k : ∀ p ∈ n, p ∈ n') (m : (t, tupO [.str x u1, .str y u2]) ∈ n') : PL n' (vs ++ [.ref t]) (l ++ [(x, y)]) :=
  (h.mono k).append (.cons m .nil)
theorem sub_cell6 {prog : Program} {w : World} {A : Around} {E : Value → Shared → Prop} {s : Shared} {h₀ : Heap} {L : Addr} {value slice : PySem.Expr} {l : Addr} {vs : List Value} {ep : Nat} {news : List (Addr × Obj)} {u : Tok} {x : Value} {Q : Value → Shared → Prop} (N : News h₀ L s.heap news) (hm : (l, lstO vs ep) ∈ news) (hx : vs[6]? = some x)
    (h : Q x s) (hs : subscripted slice false (.ref l) (.int 6 u) = operate [.ref l, .int 6 u] (getItem (.ref l) (.int 6 u)) := by with_unfolding_all rfl) :
    wpAny (model prog w) A (subscriptTail value slice (.ref l) (.int 6 u)) Q E s := by
  have hl : s.heap.IsList l vs.toArray := News.isList N hm
  exact tail_any hl.typeIs PySem.slot_list_getitem.lookup (wpAny_getItem_list hl (by decide) (by decide) (by simpa using hx) h) hs
end Mine

end
section -- P31
open PySem PySem.W PyProof.Rows
set_option maxRecDepth 100000
namespace Mine
theorem durL_perm {f : Nat → Int} {l l' : List Nat} (h : l.Perm l') : durL f l = durL f l' := by
  induction h with
  | nil => rfl
  | cons x _ ih => rw [durL_cons, durL_cons, ih]
  | swap x y l => rw [durL_cons, durL_cons, durL_cons, durL_cons]; lia  
  | trans _ _ ih1 ih2 => rw [ih1, ih2]
theorem durL_full {f : Nat → Int} : ∀ (n : Nat) (l : List Nat), l.Nodup → (∀ k ∈ l, k < n) → l.length = n → durL f l = durL f (List.range n)
  | 0, l, _, _, hl => by rw [List.eq_nil_of_length_eq_zero hl]; rfl
  | n + 1, l, hn, h, hl => by
    have hm : n ∈ l := by
      by_cases q : n ∈ l
      · exact q
      · have := nodup_le n l hn (fun k hk => by
          have h3 := h k hk
          have h5 : k ≠ n := fun e => q (e ▸ hk)
          lia  )
        lia  
    rw [durL_perm (List.perm_cons_erase hm), durL_cons, durL_full n (l.erase n) (hn.erase n) (fun k hk => by
      have h2 := (hn.mem_erase_iff).mp hk
      have h3 := h k h2.2
      lia  ) (by have := List.length_erase_of_mem hm; lia  ), List.range_succ, durL_append]
    have : durL f [n] = f n := by simp [durL]
    lia  
theorem durL_row {f : Nat → Int} {b : Nat → Nat} {l : List Nat} (fe : FeasAt b [] l) (hl : l.length = 5) : durL f l = [f 0, f 1, f 2, f 3, f 4].sum := by
  rw [durL_full 5 l (fe_nodup l [] fe) (fe_lt l [] fe) hl]; rfl
/-! the keys of a dict, the signs of a row, as lists -/
theorem keysS_of {C : List Value → Prop} : ∀ {kvs : List (Str × Value)}, (∀ vs, SL vs (kvs.map (·.1)) → C vs) → KdlKeysS kvs C
  | [], h => h [] .nil
  | _ :: _, h => fun _ => keysS_of fun vs hs => h _ (.cons hs)
theorem sl_of_carried : ∀ {vs : List Value} {l : List Str}, CarriedAll vs (l.map .str) → SL vs l
  | [], [], _ => .nil
  | _ :: _, [], h => nomatch h
  | [], _ :: _, h => nomatch h
  | v :: vs, x :: l, h => by
    cases h with
    | cons h1 h2 => cases h1; exact .cons (sl_of_carried h2)
theorem signs_row (l : List Nat) : signs (rowStr l) = l.map letter := by
  unfold signs rowStr
  show ((l.map (97 + ·)).toArray.toList.map fun n => (⟨#[n]⟩ : Str)) = _
  rw [List.map_map]; rfl
section
variable {prog : Program} {w : World} {A : Around} {E : Value → Shared → Prop} {s : Shared} {h₀ : Heap} {L : Addr} {m : Str → Option Value} {news : List (Addr × Obj)} {Q : Value → Shared → Prop}
theorem list_keys_c {d : Addr} {o : Obj} {kvs : List (Str × Value)} {l : List (Str × Int)} (hh : A.handled = none) (F : Fr h₀ L s.heap m) (N : News h₀ L s.heap news) (hp : (d, o) ∈ news) (hd : o.IsDictOf (PySem.strKind prog w) kvs) (lo : (d == sysModules) = false) (cv : CV kvs l) (hn : l.length ≤ 1000)
    (h : ∀ B c h' tk vs, SL vs (l.map (·.1)) → Fr h₀ L h' m → News h₀ L h' ((B, lstO vs c) :: news) → (∀ q ∈ news, q.1 < B) → Q (.ref B) { s with heap := h', toks := tk }) : wpAny (model prog w) A (call (.type "list") [.ref d]) Q E s :=
  kdl_list_keysS hh F N hp hd lo (by rw [cv.length]; lia  ) fun B c h' tk => keysS_of fun vs hs => by
    rw [cv.keys] at hs
    exact h B c h' tk vs hs
theorem list_row_c {l : List Nat} {t : Tok} (hh : A.handled = none) (F : Fr h₀ L s.heap m) (N : News h₀ L s.heap news) (hn : l.length ≤ 1000)
    (h : ∀ B c h' tk vs, SL vs (l.map letter) → Fr h₀ L h' m → News h₀ L h' ((B, lstO vs c) :: news) → Q (.ref B) { s with heap := h', toks := tk }) : wpAny (model prog w) A (call (.type "list") [.str (rowStr l) t]) Q E s :=
  list_strD hh F N (fun h' tk ys F' N' _ hn' _ P hc => by
    rw [signs_row] at hc
    obtain ⟨n, N2⟩ := made_enters P F' N' hn'
    exact h _ n h' tk ys (sl_of_carried hc) F' N2) (by
      have : (rowStr l).length = l.length := by unfold rowStr; show ((l.map (97 + ·)).toArray).size = _; simp
      rw [this, sizeLine_eq]; lia  )
/-- two lists of the same letters -/
theorem ne_SL {a b : Addr} {xs ys : List Value} {ka kb : Nat} {l : List Str} (N : News h₀ L s.heap news) (ma : (a, lstO xs ka) ∈ news) (Da : SL xs l) (mb : (b, lstO ys kb) ∈ news) (Db : SL ys l) (hok : ∀ x ∈ l, OkText x) (hu : A.units + 64 < cLine) (h : Q (.bool false) s) :
    wpAny (model prog w) A (compareOp .NotEq (.ref a) (.ref b)) Q E s :=
  ne_same N ma Da.dat mb Db.dat (fun d hd => by
    obtain ⟨x, hx, rfl⟩ := List.mem_map.mp hd
    exact strOk_of (hok x hx)) hu h
end
end Mine

end
section -- W24a
theorem Mine.off_W24a : True := by w_top off; trivial
open PySem PySem.W PyProof.Rows
set_option maxRecDepth 100000
namespace Mine
variable {w : World} {p : Program} {loose : List Str} {mean : ExcName → Option Value} {mg mb : Str → Option Value} {dp un : Nat} {gd : Option (List Code)} {cn : Str} {cs : Scope} {a : Addr} {ccd : Value} {cl : List (Str × Addr)} {outer : List Env} {A₀ : Around} {base h₀ : Heap} {L : Addr} {m : Str → Option Value} {news : List (Addr × Obj)} {s : Shared} {Q E : Value → Shared → Prop}
set_option maxHeartbeats 2000000 in
theorem tuplecomp_c {KL : Addr} (B : Below A₀ base outer h₀) (F : Fr h₀ L s.heap m) (X : (hd.heap_1 w.params).In h₀) (N : News h₀ L s.heap news) (T : Top p loose mean mg mb h₀) (hk : cs.kind = .function) (hd : dp + 15 < recursionLimit) (hu : un + 120 < cLine)
  (ret : ∀ H D hh t h' tk', Fr h₀ L h' m → News h₀ L h' ((H, instObj 62 D) :: (D, dictOf [⟨hh, .str (Str.ofString "comp_select_list") t, .ref KL⟩] 1) :: news) → (∀ p ∈ news, p.1 < D) → D < H → Q (.ref H) {s with heap := h', toks := tk'}) :
  wpAny (model PySem.Challenge.rw_wy0045_01.row.prog w) (ktrTop dp un gd cn cs L a ccd cl outer) (call (.ref 62) [.ref KL]) Q E s := by
  refine' call_cls F X N ?k4 ?k5 ?k6 ?_
  case k4 => k_is
  case k5 => k_is
  case k6 => k_is
  intro x' d' h' F' N' l1 l2
  clear F N
  k_lt2 l2
  rw [under_make_top]
  k_dflt (refine' code_def ?k1 ?k2 ?k3 ?k4 ?k5 ?kA ?kF ?kK ?k6 ?k7 ?k8 ?k9 ?kB ?_ ?c2 ?c3 ?c4 ?c5; (case kA => exact rfl); (case kF => exact rfl); (case kK => first | assumption | exact rfl); (case k1 => k_asm); (case k2 => k_asm); (case k3 => k_asm); (case k4 => k_asm); (case k5 => k_asm); (case k6 => k_is); (case k7 => k_is); (case k8 => ktr_room); (case k9 => first | exact BindsTo.of_eq rfl | exact binds_K (by k_in) rfl (by k_is) rfl rfl rfl); (case c5 => decide); (case kB => exact locs rfl); (case c2 => exact rfl); (case c3 => exact rfl); (case c4 => exact rfl); k_whole; intro g' L' h1' FG' F1 N1 B' X' T'; (try dsimp only); (try k_fold))
  clear F' N'
  k_steps
  exact ret _ _ _ _ _ _ (by assumption) (by assumption) l1 l2
end Mine

end
section -- W24
theorem Mine.off_W24 : True := by w_top off; trivial
open PySem PySem.W PyProof.Rows
set_option maxRecDepth 100000
namespace Mine
variable {w : World} {p : Program} {loose : List Str} {mean : ExcName → Option Value} {mg mb : Str → Option Value} {dp un : Nat} {gd : Option (List Code)} {cn : Str} {cs : Scope} {a : Addr} {ccd : Value} {cl : List (Str × Addr)} {outer : List Env} {A₀ : Around} {base h₀ : Heap} {L : Addr} {m : Str → Option Value} {news : List (Addr × Obj)} {s : Shared} {Q E : Value → Shared → Prop}
local macro_rules | `(tactic| k_in) => `(tactic| first | with_reducible assumption | exact Frag.In.keeps (by with_reducible assumption) (Fr.keep (by with_reducible assumption)))
set_option maxHeartbeats 8000000 in
theorem glued_c (B : Below A₀ base outer h₀) (F : Fr h₀ L s.heap m) (X : (hd.heap_1 w.params).In h₀) {PA BD : Addr} {vsP : List Value} {eP : Nat} {oB : Obj} (N : News h₀ L s.heap ((PA, lstO vsP eP) :: (BD, oB) :: news)) (T : Top p loose mean mg mb h₀) (hk : cs.kind = .function) (hd : dp + 40 < recursionLimit) (hu : un + 300 < cLine)
  {d wt : Nat → Int} {b : Nat → Nat} (bd : ∀ k < 5, 1 ≤ d k ∧ d k ≤ 7) (bw : ∀ k < 5, 0 ≤ wt k ∧ wt k ≤ 19) (bb : ∀ k < 5, k ≠ 0 → b k < k)
  {kB : List (Str × Value)} (dB : oB.IsDictOf (KD w) kB) (tab : TabK kB 5 (fun k v => BlkAt w news d wt [k] v)) (loB : (BD == sysModules) = false) (hPA : ∀ p ∈ (BD, oB) :: news, p.1 ≠ PA) (hBD : ∀ p ∈ news, p.1 ≠ BD) (plP : PL news vsP (pairsT (St.start b)))
  {KL K0 K1 : Addr} {eK : Nat} {u0 u1 v0 v1 tg tl : Tok} {d0 d1 gr lo : Int} (mK : (KL, lstO [.ref K0, .ref K1] eK) ∈ news) (mK0 : (K0, tupO [.int 0 u0, .int d0 v0]) ∈ news) (mK1 : (K1, tupO [.int 1 u1, .int d1 v1]) ∈ news) (hd0 : d0 = -1 ∨ d0 = -2) (hd1 : d1 = 1 ∨ d1 = -3)
  (hlo : 0 ≤ lo) (hlo2 : lo < gr) (hg1 : 4200 ≤ Builtin.Int.intBits gr) (hg2 : Builtin.Int.intBits gr ≤ 4300)
  (ret : ∀ S T v t n' h' tk' dr, Good d wt b S → S.ps = [] → Fr h₀ L h' m → News h₀ L h' ((T, tupO [v, .str (rowStr (S.row 0)) t]) :: n') → (∀ p ∈ news, p ∈ n') → (∀ p ∈ n', p.1 < T) → BlkAt w n' d wt (S.row 0) v → Q (.ref T) {s with heap := h', toks := tk', drawn := dr}) :
  wpAny (model PySem.Challenge.rw_wy0045_01.row.prog w) (ktrTop dp un gd cn cs L a ccd cl outer) (call (.ref 290) [.ref BD, .ref PA, .ref KL, .int gr tg, .int lo tl]) Q E s := by
  refine wpAny_call ?_
  k_dflt (refine' code_defC ?k1 ?k2 ?k3 ?k4 ?k5 ?kA ?kF ?kK ?k6 ?k7 ?k8 ?k9 ?kB ?kD ?_ ?c2 ?c3 ?c4; (case kA => exact rfl); (case kF => exact rfl); (case kK => first | assumption | exact rfl); (case k1 => k_asm); (case k2 => k_asm); (case k3 => k_asm); (case k4 => k_asm); (case k5 => k_asm); (case k6 => k_is); (case k7 => k_is); (case k8 => ktr_room); (case k9 => first | exact BindsTo.of_eq rfl | exact binds_K (by k_in) rfl (by k_is) rfl rfl rfl); (case kB => exact rfl); (case kD => decide +kernel); (case c2 => exact rfl); (case c3 => exact rfl); (case c4 => exact rfl); k_whole; intro g' L' h1' tk1 cells' FG' F' N' Y' B' X' T' l1; k_cells Y'; (try simp only [List.cons_append, List.nil_append] at N'); (try dsimp only); (try k_fold))
  rename_i o1 o2 o3 c1 c2 c3
  have lPA : PA < L' := l1 (PA, _) (.head _)
  have lBD : BD < L' := l1 (BD, _) (.tail _ (.head _))
  have lnw : ∀ p ∈ news, p.1 < L' := fun p hp => l1 p (.tail _ (.tail _ hp))
  refine exec_join (fun s' => ∀ PP : Prop, (∀ h' tk m' OX OD hh t, (s' = { s with heap := h', toks := tk }) → (Fr g' L' h' m') → (News g' L' h' ((OX, instObj 62 OD) :: (OD, dictOf [⟨hh, .str (Str.ofString "comp_select_list") t, .ref KL⟩] 1) :: (L' + 1 + 1 + 1, o1) :: (L' + 1 + 1, o2) :: (L' + 1, o3) :: (PA, lstO vsP eP) :: (BD, oB) :: news)) → (L' + 1 + 1 + 1 < OD) → (OD < OX) → (m' (Str.ofString "order") = some (.ref OX)) → (m' (Str.ofString "blocks") = some (.ref BD)) → (m' (Str.ofString "pairs") = some (.ref PA)) → (m' (Str.ofString "keys") = some (.ref KL)) → (m' (Str.ofString "great") = some (.int gr tg)) → (m' (Str.ofString "low") = some (.int lo tl)) → PP) → PP) ?_ ?_
  · refine opq ?_
    intro QQ EE hQQ
    repeat' (first | ((with_reducible show wpAny _ _ (PySem.call (Value.ref _) _ _) _ _ _); (k_here; (with_reducible show wpAny _ _ (call (Value.ref 62) _ _) _ _ _); k_dflt (refine tuplecomp_c (by k_asm) (by with_reducible assumption) (by k_asm) (by with_reducible assumption) (by k_asm) rfl (by first | exact rmN (k := 6) hd rfl | exact rmN (k := 11) hd rfl | exact rmN (k := 16) hd rfl | exact rmN (k := 21) hd rfl | exact rmN (k := 26) hd rfl | ((try dsimp only [ktrTop]); omega)) (by first | exact rmN (k := 43) hu rfl | exact rmN (k := 83) hu rfl | exact rmN (k := 123) hu rfl | exact rmN (k := 163) hu rfl | ((try dsimp only [ktrTop]); omega)) ?_); intro _ _ _ _ _ _ _ _ _ _)) | (k_unfold; (try dsimp only)) | (k_end; kc_close) | walk1 | (dsimp only; first | ((with_reducible show wpAny _ _ (PySem.call (Value.ref _) _ _) _ _ _); (k_here; (with_reducible show wpAny _ _ (call (Value.ref 62) _ _) _ _ _); k_dflt (refine tuplecomp_c (by k_asm) (by with_reducible assumption) (by k_asm) (by with_reducible assumption) (by k_asm) rfl (by first | exact rmN (k := 6) hd rfl | exact rmN (k := 11) hd rfl | exact rmN (k := 16) hd rfl | exact rmN (k := 21) hd rfl | exact rmN (k := 26) hd rfl | ((try dsimp only [ktrTop]); omega)) (by first | exact rmN (k := 43) hu rfl | exact rmN (k := 83) hu rfl | exact rmN (k := 123) hu rfl | exact rmN (k := 163) hu rfl | ((try dsimp only [ktrTop]); omega)) ?_); intro _ _ _ _ _ _ _ _ _ _)) | walk1) | (leave1; (try dsimp only)))
    rename Fr _ _ _ _ => F3
    rename News _ _ _ _ => N3
    rename ∀ p ∈ (L' + 1 + 1 + 1, _) :: _, p.1 < _ => lz
    refine hQQ _ _ ?_
    exact Hold.mk ⟨rfl, fun PP kk => kk _ _ _ _ _ _ _ rfl F3 N3 (lz _ (.head _)) (by assumption) rfl rfl rfl rfl rfl rfl⟩
  clear F' N'
  intro s' hPP
  refine hPP _ ?_
  clear hPP
  rintro h' tk m' OX OD hh t rfl F1 N1 lOD lOX q1 q2 q3 q4 q5 q6
  have mPA : (PA, lstO vsP eP) ∈ (OX, instObj 62 OD) :: (OD, dictOf [⟨hh, .str (Str.ofString "comp_select_list") t, .ref KL⟩] 1) :: (L' + 1 + 1 + 1, o1) :: (L' + 1 + 1, o2) :: (L' + 1, o3) :: (PA, lstO vsP eP) :: (BD, oB) :: news := .tail _ (.tail _ (.tail _ (.tail _ (.tail _ (.head _)))))
  have plP1 : PL ((OX, instObj 62 OD) :: (OD, dictOf [⟨hh, .str (Str.ofString "comp_select_list") t, .ref KL⟩] 1) :: (L' + 1 + 1 + 1, o1) :: (L' + 1 + 1, o2) :: (L' + 1, o3) :: (PA, lstO vsP eP) :: (BD, oB) :: news) vsP (pairsT (St.start b)) := plP.mono fun p hp => .tail _ (.tail _ (.tail _ (.tail _ (.tail _ (.tail _ (.tail _ hp))))))
  have G0 : Good d wt b (St.start b) := Good.start bb
  have okP := okP_pairs G0.lt5
  refine exec_join (fun s' => ∀ PP : Prop, (∀ h' tk m' H D tH, (s' = { s with heap := h', toks := tk }) → (Fr g' L' h' m') → (News g' L' h' ((H, instObj 276 D) :: (D, hdD w PA tH) :: (OX, instObj 62 OD) :: (OD, dictOf [⟨hh, .str (Str.ofString "comp_select_list") t, .ref KL⟩] 1) :: (L' + 1 + 1 + 1, o1) :: (L' + 1 + 1, o2) :: (L' + 1, o3) :: (PA, lstO vsP eP) :: (BD, oB) :: news)) → (OX < D) → (D < H) → (m' (Str.ofString "ahead") = some (.ref H)) → (m' (Str.ofString "order") = some (.ref OX)) → (m' (Str.ofString "blocks") = some (.ref BD)) → (m' (Str.ofString "pairs") = some (.ref PA)) → (m' (Str.ofString "keys") = some (.ref KL)) → (m' (Str.ofString "great") = some (.int gr tg)) → (m' (Str.ofString "low") = some (.int lo tl)) → PP) → PP) ?_ ?_
  · refine opq ?_
    intro QQ EE hQQ
    repeat' (first | ((with_reducible show wpAny _ _ (PySem.call (Value.ref _) _ _) _ _ _); (k_here; (with_reducible show wpAny _ _ (call (Value.ref 276) _ _) _ _ _); k_dflt (refine headers1_c (by k_asm) (by with_reducible assumption) (by k_asm) (by with_reducible assumption) (by k_asm) rfl (by first | exact rmN (k := 6) hd rfl | exact rmN (k := 11) hd rfl | exact rmN (k := 16) hd rfl | exact rmN (k := 21) hd rfl | exact rmN (k := 26) hd rfl | ((try dsimp only [ktrTop]); omega)) (by first | exact rmN (k := 43) hu rfl | exact rmN (k := 83) hu rfl | exact rmN (k := 123) hu rfl | exact rmN (k := 163) hu rfl | ((try dsimp only [ktrTop]); omega)) (by first | with_reducible assumption | assumption) (by first | with_reducible assumption | assumption) (by first | with_reducible assumption | assumption) ?_); intro _ _ _ _ _ _ _ _ _)) | (k_unfold; (try dsimp only)) | (k_end; kc_close) | walk1 | (dsimp only; first | ((with_reducible show wpAny _ _ (PySem.call (Value.ref _) _ _) _ _ _); (k_here; (with_reducible show wpAny _ _ (call (Value.ref 276) _ _) _ _ _); k_dflt (refine headers1_c (by k_asm) (by with_reducible assumption) (by k_asm) (by with_reducible assumption) (by k_asm) rfl (by first | exact rmN (k := 6) hd rfl | exact rmN (k := 11) hd rfl | exact rmN (k := 16) hd rfl | exact rmN (k := 21) hd rfl | exact rmN (k := 26) hd rfl | ((try dsimp only [ktrTop]); omega)) (by first | exact rmN (k := 43) hu rfl | exact rmN (k := 83) hu rfl | exact rmN (k := 123) hu rfl | exact rmN (k := 163) hu rfl | ((try dsimp only [ktrTop]); omega)) (by first | with_reducible assumption | assumption) (by first | with_reducible assumption | assumption) (by first | with_reducible assumption | assumption) ?_); intro _ _ _ _ _ _ _ _ _)) | walk1) | (leave1; (try dsimp only)))
    rename Fr _ _ _ _ => F3
    rename News _ _ _ _ => N3
    rename ∀ p ∈ (OX, _) :: _, p.1 < _ => lz
    refine hQQ _ _ ?_
    exact Hold.mk ⟨rfl, fun PP kk => kk _ _ _ _ _ _ rfl F3 N3 (lz _ (.head _)) (by assumption) rfl q1 q2 q3 q4 q5 q6⟩
  clear F1 N1 q1 q2 q3 q4 q5 q6 mPA plP1
  intro s' hPP
  refine hPP _ ?_
  clear hPP
  rintro h' tk m' H D tH rfl F1 N1 lD lH q0 q1 q2 q3 q4 q5 q6
  refine exec_join (fun s' => ∀ PP : Prop, (∀ h' tk m' DU eD, (s' = { s with heap := h', toks := tk }) → (Fr g' L' h' m') → (News g' L' h' ((DU, lstO vsP eD) :: (H, instObj 276 D) :: (D, hdD w PA tH) :: (OX, instObj 62 OD) :: (OD, dictOf [⟨hh, .str (Str.ofString "comp_select_list") t, .ref KL⟩] 1) :: (L' + 1 + 1 + 1, o1) :: (L' + 1 + 1, o2) :: (L' + 1, o3) :: (PA, lstO vsP eP) :: (BD, oB) :: news)) → (H < DU) → (m' (Str.ofString "due") = some (.ref DU)) → (m' (Str.ofString "ahead") = some (.ref H)) → (m' (Str.ofString "order") = some (.ref OX)) → (m' (Str.ofString "blocks") = some (.ref BD)) → (m' (Str.ofString "pairs") = some (.ref PA)) → (m' (Str.ofString "keys") = some (.ref KL)) → (m' (Str.ofString "great") = some (.int gr tg)) → (m' (Str.ofString "low") = some (.int lo tl)) → PP) → PP) ?_ ?_
  · refine opq ?_
    intro QQ EE hQQ
    have mPA : (PA, lstO vsP eP) ∈ ((H, instObj 276 D) :: (D, hdD w PA tH) :: (OX, instObj 62 OD) :: (OD, dictOf [⟨hh, .str (Str.ofString "comp_select_list") t, .ref KL⟩] 1) :: (L' + 1 + 1 + 1, o1) :: (L' + 1 + 1, o2) :: (L' + 1, o3) :: (PA, lstO vsP eP) :: (BD, oB) :: news) := .tail _ (.tail _ (.tail _ (.tail _ (.tail _ (.tail _ (.tail _ (.head _)))))))
    have hl4 : vsP.length = 4 := plP.len
    have hszP : vsP.toArray.size ≤ sizeLine := by rw [List.size_toArray, sizeLine_eq]; lia  
    repeat' (first | ((with_reducible show wpAny _ _ (PySem.call (Value.type "list") _ _) _ _ _); (k_here; (with_reducible show wpAny _ _ (call (Value.type _) [Value.ref _]) _ _ _); k_dflt (refine list_copyK (by with_reducible assumption) (by with_reducible assumption) (News.isList (by with_reducible assumption) (by with_reducible assumption)) ?_ (by with_reducible assumption)); intro _ _ _ _ _ _)) | (k_unfold; (try dsimp only)) | (k_end; kc_close) | walk1 | (dsimp only; first | ((with_reducible show wpAny _ _ (PySem.call (Value.type "list") _ _) _ _ _); (k_here; (with_reducible show wpAny _ _ (call (Value.type _) [Value.ref _]) _ _ _); k_dflt (refine list_copyK (by with_reducible assumption) (by with_reducible assumption) (News.isList (by with_reducible assumption) (by with_reducible assumption)) ?_ (by with_reducible assumption)); intro _ _ _ _ _ _)) | walk1) | (leave1; (try dsimp only)))
    rename Fr _ _ _ _ => F3
    rename News _ _ _ _ => N3
    rename ∀ p ∈ (H, _) :: _, p.1 < _ => lz
    refine hQQ _ _ ?_
    exact Hold.mk ⟨rfl, fun PP kk => kk _ _ _ _ _ rfl F3 N3 (lz _ (.head _)) rfl q0 q1 q2 q3 q4 q5 q6⟩
  clear F1 N1 q0 q1 q2 q3 q4 q5 q6
  intro s' hPP
  refine hPP _ ?_
  clear hPP
  rintro h' tk m' DU eD rfl F1 N1 lDU qd q0 q1 q2 q3 q4 q5 q6
  refine exec_join (fun s' => ∀ PP : Prop, (∀ h' tk m' RD oR kR, (s' = { s with heap := h', toks := tk }) → (Fr g' L' h' m') → (News g' L' h' ((RD, oR) :: (DU, lstO vsP eD) :: (H, instObj 276 D) :: (D, hdD w PA tH) :: (OX, instObj 62 OD) :: (OD, dictOf [⟨hh, .str (Str.ofString "comp_select_list") t, .ref KL⟩] 1) :: (L' + 1 + 1 + 1, o1) :: (L' + 1 + 1, o2) :: (L' + 1, o3) :: (PA, lstO vsP eP) :: (BD, oB) :: news)) → (DU < RD) → (oR.IsDictOf (KD w) kR) → (TabK kR 5 (fun k v => ∃ t, v = .str (rowStr [k]) t)) → (m' (Str.ofString "rows") = some (.ref RD)) → (m' (Str.ofString "due") = some (.ref DU)) → (m' (Str.ofString "ahead") = some (.ref H)) → (m' (Str.ofString "order") = some (.ref OX)) → (m' (Str.ofString "blocks") = some (.ref BD)) → (m' (Str.ofString "pairs") = some (.ref PA)) → (m' (Str.ofString "keys") = some (.ref KL)) → (m' (Str.ofString "great") = some (.int gr tg)) → (m' (Str.ofString "low") = some (.int lo tl)) → PP) → PP) ?_ ?_
  · refine opq ?_
    intro QQ EE hQQ
    repeat' (first | ((with_reducible show SrcSame _ _ _ _ _ _ _ _ _ _ ); refine Hold.out ?_) | ((with_reducible show wpAny _ _ (exec (Stmt.Assign [_] (Expr.DictComp _ _ _ _ _) _) _) _ _ _); (k_here; k_dflt (refine Assign_DictComp_same (by k_asm) (by rfl) (by with_unfolding_all rfl) (by with_unfolding_all rfl) (by decide) (by rfl) (by decide) (by rfl) (by rfl) (by rfl) (by decide) ?_))) | (k_unfold; (try dsimp only)) | (k_end; kc_close) | walk1 | (dsimp only; first | ((with_reducible show SrcSame _ _ _ _ _ _ _ _ _ _ ); refine Hold.out ?_) | ((with_reducible show wpAny _ _ (exec (Stmt.Assign [_] (Expr.DictComp _ _ _ _ _) _) _) _ _ _); (k_here; k_dflt (refine Assign_DictComp_same (by k_asm) (by rfl) (by with_unfolding_all rfl) (by with_unfolding_all rfl) (by decide) (by rfl) (by decide) (by rfl) (by rfl) (by rfl) (by decide) ?_))) | walk1) | (leave1; (try dsimp only)))
    refine Hold.mk ⟨BD, oB, kB, _, rfl, rfl, F1, N1, .tail _ (.tail _ (.tail _ (.tail _ (.tail _ (.tail _ (.tail _ (.tail _ (.tail _ (.head _))))))))), dB, loB, by rw [tab.len]; decide, fun RD oR kR h2 tk2 F2 N2 lRD dR e1 e2 => ?_⟩
    refine hQQ _ _ ?_
    exact Hold.mk ⟨rfl, fun PP kk => kk _ _ _ _ _ _ rfl F2 N2 (lRD _ (.head _)) dR (TabK.same tab e1 e2) rfl qd q0 q1 q2 q3 q4 q5 q6⟩
  clear F1 N1 qd q0 q1 q2 q3 q4 q5 q6
  intro s' hPP
  refine hPP _ ?_
  clear hPP
  rintro h' tk m' RD oR kR rfl F1 N1 lRD dR tabR qr qd q0 q1 q2 q3 q4 q5 q6
  refine exec_join (fun s' => ∀ PP : Prop, (∀ h' tk m' tL, (s' = { s with heap := h', toks := tk }) → (Fr g' L' h' m') → (News g' L' h' ((PA, lstO vsP eP) :: (BD, oB) :: (RD, oR) :: (L' + 1 + 1 + 1, o1) :: (L' + 1 + 1, o2) :: (L' + 1, o3) :: (DU, lstO vsP eD) :: (H, instObj 276 D) :: (D, hdD w PA tH) :: (OX, instObj 62 OD) :: (OD, dictOf [⟨hh, .str (Str.ofString "comp_select_list") t, .ref KL⟩] 1) :: news)) → (Nm m' OX H DU RD BD PA KL gr lo tg tl tL) → PP) → PP) ?_ ?_
  · refine opq ?_
    intro QQ EE hQQ
    k_steps
    rename Fr _ _ _ _ => F3
    rename News _ _ _ _ => N3
    refine hQQ _ _ ?_
    exact Hold.mk ⟨rfl, fun PP kk => kk _ _ _ _ rfl F3 (News.sub N3 (sub_cons (.tail _ (.tail _ (.tail _ (.tail _ (.tail _ (.tail _ (.tail _ (.tail _ (.tail _ (.head _)))))))))) (sub_cons (.tail _ (.tail _ (.tail _ (.tail _ (.tail _ (.tail _ (.tail _ (.tail _ (.tail _ (.tail _ (.head _))))))))))) (sub_cons (.head _) (sub_cons (.tail _ (.tail _ (.tail _ (.tail _ (.tail _ (.tail _ (.head _))))))) (sub_cons (.tail _ (.tail _ (.tail _ (.tail _ (.tail _ (.tail _ (.tail _ (.head _)))))))) (sub_cons (.tail _ (.tail _ (.tail _ (.tail _ (.tail _ (.tail _ (.tail _ (.tail _ (.head _))))))))) (sub_cons (.tail _ (.head _)) (sub_cons (.tail _ (.tail _ (.head _))) (sub_cons (.tail _ (.tail _ (.tail _ (.head _)))) (sub_cons (.tail _ (.tail _ (.tail _ (.tail _ (.head _))))) (sub_cons (.tail _ (.tail _ (.tail _ (.tail _ (.tail _ (.head _)))))) fun _ hp => .tail _ (.tail _ (.tail _ (.tail _ (.tail _ (.tail _ (.tail _ (.tail _ (.tail _ (.tail _ (.tail _ (hp))))))))))))))))))))))) ⟨q1, q0, qd, qr, by exact congrArg some (congrArg (fun z => Value.int z _) lift_is), q2, q3, q4, q5, q6⟩⟩
  clear F1 N1 qr qd q0 q1 q2 q3 q4 q5 q6
  intro s' hPP
  refine hPP _ ?_
  clear hPP
  rintro h' tk m' tL rfl F1 N1 nm
  have a1 : L' < L' + 1 := Nat.lt_succ_self _
  have a2 : L' < L' + 1 + 1 := Nat.lt_succ_of_lt a1
  have a3 : L' < L' + 1 + 1 + 1 := Nat.lt_succ_of_lt a2
  have a4 : L' < OD := Nat.lt_trans a3 lOD
  have a5 : L' < OX := Nat.lt_trans a4 lOX
  have a6 : L' < D := Nat.lt_trans a5 lD
  have a7 : L' < H := Nat.lt_trans a6 lH
  have a8 : L' < DU := Nat.lt_trans a7 lDU
  have a9 : L' < RD := Nat.lt_trans a8 lRD
  have b5 : L' + 1 + 1 + 1 < OX := Nat.lt_trans lOD lOX
  have b6 : L' + 1 + 1 + 1 < D := Nat.lt_trans b5 lD
  have b7 : L' + 1 + 1 + 1 < H := Nat.lt_trans b6 lH
  have b8 : L' + 1 + 1 + 1 < DU := Nat.lt_trans b7 lDU
  have gi0 : GI w d wt b news PA BD RD H D OX OD KL (L' + 1 + 1 + 1) (L' + 1 + 1) (L' + 1) tH t hh 0 (St.start b) oB oR vsP DU ((DU, lstO vsP eD) :: (H, instObj 276 D) :: (D, hdD w PA tH) :: (OX, instObj 62 OD) :: (OD, dictOf [⟨hh, .str (Str.ofString "comp_select_list") t, .ref KL⟩] 1) :: news) := {
    G := G0
    R := Rowy.start
    len := rfl
    dB := ⟨kB, dB, tab.mono fun _ _ _ h => h.mono fun _ hp => .tail _ (.tail _ (.tail _ (.tail _ (.tail _ (hp)))))⟩
    dR := ⟨kR, dR, tabR⟩
    plP := plP.mono fun _ hp => .tail _ (.tail _ (.tail _ (.tail _ (.tail _ (hp)))))
    du := ⟨vsP, eD, .head _, plP.mono fun _ hp => .tail _ (.tail _ (.tail _ (.tail _ (.tail _ (hp)))))⟩
    mH := .tail _ (.head _)
    mD := .tail _ (.tail _ (.head _))
    mX := .tail _ (.tail _ (.tail _ (.head _)))
    mO := .tail _ (.tail _ (.tail _ (.tail _ (.head _))))
    mN := fun _ hp => .tail _ (.tail _ (.tail _ (.tail _ (.tail _ (hp)))))
    f1 := neA (Nat.ne_of_gt (Nat.lt_trans lPA a8)) (neA (Nat.ne_of_gt (Nat.lt_trans lPA a7)) (neA (Nat.ne_of_gt (Nat.lt_trans lPA a6)) (neA (Nat.ne_of_gt (Nat.lt_trans lPA a5)) (neA (Nat.ne_of_gt (Nat.lt_trans lPA a4)) fun p hp => hPA p (.tail _ hp)))))
    f2 := neA (Nat.ne_of_gt (Nat.lt_trans lBD a8)) (neA (Nat.ne_of_gt (Nat.lt_trans lBD a7)) (neA (Nat.ne_of_gt (Nat.lt_trans lBD a6)) (neA (Nat.ne_of_gt (Nat.lt_trans lBD a5)) (neA (Nat.ne_of_gt (Nat.lt_trans lBD a4)) hBD))))
    f3 := neA (Nat.ne_of_lt lRD) (neA (Nat.ne_of_lt (Nat.lt_trans lDU lRD)) (neA (Nat.ne_of_lt (Nat.lt_trans lH (Nat.lt_trans lDU lRD))) (neA (Nat.ne_of_lt (Nat.lt_trans lD (Nat.lt_trans lH (Nat.lt_trans lDU lRD)))) (neA (Nat.ne_of_lt (Nat.lt_trans lOX (Nat.lt_trans lD (Nat.lt_trans lH (Nat.lt_trans lDU lRD))))) fun p hp => Nat.ne_of_lt (Nat.lt_trans (lnw p hp) a9)))))
    f4 := neA (Nat.ne_of_gt b8) (neA (Nat.ne_of_gt b7) (neA (Nat.ne_of_gt b6) (neA (Nat.ne_of_gt b5) (neA (Nat.ne_of_gt lOD) fun p hp => Nat.ne_of_lt (Nat.lt_trans (lnw p hp) a3)))))
    f5 := neA (Nat.ne_of_gt (Nat.lt_trans (Nat.lt_succ_self _) b8)) (neA (Nat.ne_of_gt (Nat.lt_trans (Nat.lt_succ_self _) b7)) (neA (Nat.ne_of_gt (Nat.lt_trans (Nat.lt_succ_self _) b6)) (neA (Nat.ne_of_gt (Nat.lt_trans (Nat.lt_succ_self _) b5)) (neA (Nat.ne_of_gt (Nat.lt_trans (Nat.lt_succ_self _) lOD)) fun p hp => Nat.ne_of_lt (Nat.lt_trans (lnw p hp) a2)))))
    f6 := neA (Nat.ne_of_gt (Nat.lt_trans (Nat.lt_trans (Nat.lt_succ_self _) (Nat.lt_succ_self _)) b8)) (neA (Nat.ne_of_gt (Nat.lt_trans (Nat.lt_trans (Nat.lt_succ_self _) (Nat.lt_succ_self _)) b7)) (neA (Nat.ne_of_gt (Nat.lt_trans (Nat.lt_trans (Nat.lt_succ_self _) (Nat.lt_succ_self _)) b6)) (neA (Nat.ne_of_gt (Nat.lt_trans (Nat.lt_trans (Nat.lt_succ_self _) (Nat.lt_succ_self _)) b5)) (neA (Nat.ne_of_gt (Nat.lt_trans (Nat.lt_trans (Nat.lt_succ_self _) (Nat.lt_succ_self _)) lOD)) fun p hp => Nat.ne_of_lt (Nat.lt_trans (lnw p hp) a1))))) }
  have zPB : PA ≠ BD := (hPA (BD, oB) (.head _)).symm
  have zPR : PA ≠ RD := Nat.ne_of_lt (Nat.lt_trans lPA a9)
  have zP3 : PA ≠ L' + 1 + 1 + 1 := Nat.ne_of_lt (Nat.lt_trans lPA a3)
  have zP2 : PA ≠ L' + 1 + 1 := Nat.ne_of_lt (Nat.lt_trans lPA a2)
  have zP1 : PA ≠ L' + 1 := Nat.ne_of_lt (Nat.lt_trans lPA a1)
  have zBR : BD ≠ RD := Nat.ne_of_lt (Nat.lt_trans lBD a9)
  have zB3 : BD ≠ L' + 1 + 1 + 1 := Nat.ne_of_lt (Nat.lt_trans lBD a3)
  have zB2 : BD ≠ L' + 1 + 1 := Nat.ne_of_lt (Nat.lt_trans lBD a2)
  have zB1 : BD ≠ L' + 1 := Nat.ne_of_lt (Nat.lt_trans lBD a1)
  have l3R : L' + 1 + 1 + 1 < RD := Nat.lt_trans lOD (Nat.lt_trans lOX (Nat.lt_trans lD (Nat.lt_trans lH (Nat.lt_trans lDU lRD))))
  have zR3 : RD ≠ L' + 1 + 1 + 1 := Nat.ne_of_gt l3R
  have zR2 : RD ≠ L' + 1 + 1 := Nat.ne_of_gt (Nat.lt_trans (Nat.lt_succ_self _) l3R)
  have zR1 : RD ≠ L' + 1 := Nat.ne_of_gt (Nat.lt_trans (Nat.lt_trans (Nat.lt_succ_self _) (Nat.lt_succ_self _)) l3R)
  have z32 : L' + 1 + 1 + 1 ≠ L' + 1 + 1 := Nat.succ_ne_self _
  have z31 : L' + 1 + 1 + 1 ≠ L' + 1 := by intro e; exact absurd (show @Eq Nat _ _ from e) (by lia  )
  have z21 : L' + 1 + 1 ≠ L' + 1 := Nat.succ_ne_self _
  refine exec_join (fun s' => ∀ PP : Prop, (∀ h' tk dr m' tL S oB oR vsP eP DU o1 o2 o3 nn, (s' = { s with heap := h', toks := tk, drawn := dr }) → (Fr g' L' h' m') → (News g' L' h' ((PA, lstO vsP eP) :: (BD, oB) :: (RD, oR) :: (L' + 1 + 1 + 1, o1) :: (L' + 1 + 1, o2) :: (L' + 1, o3) :: nn)) → (Nm m' OX H DU RD BD PA KL gr lo tg tl tL) → (GI w d wt b news PA BD RD H D OX OD KL (L' + 1 + 1 + 1) (L' + 1 + 1) (L' + 1) tH t hh 4 S oB oR vsP DU nn) → PP) → PP) ?_ ?_
  · refine opqQ ?_
    intro QQ hQQ
    refine For_D ?_
    k_steps
    rename IsRange _ _ _ _ _ _ _ _ => hR
    rename Fr _ _ _ _ => F3
    rename News _ _ _ _ => N3
    refine range_D (n := 4) (fun i m₁ n₁ => ∃ tL S oB oR vsP eP DU o1 o2 o3 x1 x2 x3 nn, o1.data = .cell x1 ∧ o2.data = .cell x2 ∧ o3.data = .cell x3 ∧ n₁ = (PA, lstO vsP eP) :: (BD, oB) :: (RD, oR) :: (L' + 1 + 1 + 1, o1) :: (L' + 1 + 1, o2) :: (L' + 1, o3) :: nn ∧
      Nm m₁ OX H DU RD BD PA KL gr lo tg tl tL ∧ GI w d wt b news PA BD RD H D OX OD KL (L' + 1 + 1 + 1) (L' + 1 + 1) (L' + 1) tH t hh i S oB oR vsP DU nn) rfl hR (by decide) (by decide) F3 N3 ?_ ?_ ?_
    · exact ⟨_, _, _, _, _, _, _, _, _, _, _, _, _, _, c1, c2, c3, rfl, nm, gi0⟩
    · clear F3 N3 hR nm gi0
      rintro I i u m₁ n₁ oI h tk dr hi ⟨tL, S, oB, oR, vsP, eP, DU, o1, o2, o3, x1, x2, x3, nn, c1, c2, c3, rfl, nm, gi⟩ hI F1 N1
      refine assign_local F1 N1 rfl rfl rfl ?_
      clear F1 N1
      intro h1 F1 N1
      refine opqQ ?_
      intro QT hQT
      obtain ⟨n1, n2, n3, n4, n5, n6, n7, n8, n9, n10⟩ := nm
      have lt5 := gi.G.lt5
      have zIP : I ≠ PA := (hI _ (.head _)).symm
      have zIB : I ≠ BD := (hI _ (.tail _ (.head _))).symm
      have zIR : I ≠ RD := (hI _ (.tail _ (.tail _ (.head _)))).symm
      have zI3 : I ≠ L' + 1 + 1 + 1 := (hI _ (.tail _ (.tail _ (.tail _ (.head _))))).symm
      have zI2 : I ≠ L' + 1 + 1 := (hI _ (.tail _ (.tail _ (.tail _ (.tail _ (.head _)))))).symm
      have zI1 : I ≠ L' + 1 := (hI _ (.tail _ (.tail _ (.tail _ (.tail _ (.tail _ (.head _))))))).symm
      refine exec_join (fun s' => ∀ PP : Prop, (∀ h' tk m' DN vsN eN nn', (s' = { s with heap := h', toks := tk, drawn := dr }) → (Fr g' L' h' m') → (News g' L' h' ((I, oI) :: (PA, lstO vsP eP) :: (BD, oB) :: (RD, oR) :: (L' + 1 + 1 + 1, o1) :: (L' + 1 + 1, o2) :: (L' + 1, o3) :: nn')) → (Nm m' OX H DU RD BD PA KL gr lo tg tl tL) → (m' (Str.ofString "names") = some (.ref DN)) → ((DN, lstO vsN eN) ∈ nn') → (SL vsN ((S.ps.map (·.1)).map letter)) → (∀ p ∈ nn', p.1 ≠ I) → (GI w d wt b news PA BD RD H D OX OD KL (L' + 1 + 1 + 1) (L' + 1 + 1) (L' + 1) tH t hh i S oB oR vsP DU nn') → PP) → PP) ?_ ?_
      · refine opq ?_
        intro QQ EE hQQ
        --[C1
        have mPA : (PA, lstO vsP eP) ∈ (I, oI) :: (PA, lstO vsP eP) :: (BD, oB) :: (RD, oR) :: (L' + 1 + 1 + 1, o1) :: (L' + 1 + 1, o2) :: (L' + 1, o3) :: nn := .tail _ (.head _)
        have mH : (H, instObj 276 D) ∈ (I, oI) :: (PA, lstO vsP eP) :: (BD, oB) :: (RD, oR) :: (L' + 1 + 1 + 1, o1) :: (L' + 1 + 1, o2) :: (L' + 1, o3) :: nn := .tail _ (.tail _ (.tail _ (.tail _ (.tail _ (.tail _ (.tail _ (gi.mH)))))))
        have mD : (D, hdD w PA tH) ∈ (I, oI) :: (PA, lstO vsP eP) :: (BD, oB) :: (RD, oR) :: (L' + 1 + 1 + 1, o1) :: (L' + 1 + 1, o2) :: (L' + 1, o3) :: nn := .tail _ (.tail _ (.tail _ (.tail _ (.tail _ (.tail _ (.tail _ (gi.mD)))))))
        have plP : PL ((I, oI) :: (PA, lstO vsP eP) :: (BD, oB) :: (RD, oR) :: (L' + 1 + 1 + 1, o1) :: (L' + 1 + 1, o2) :: (L' + 1, o3) :: nn) vsP (pairsT S) := gi.plP.mono fun p hp => .tail _ (.tail _ (.tail _ (.tail _ (.tail _ (.tail _ (.tail _ (hp)))))))
        have hszP : vsP.length ≤ 1000 := by have e1 := plP.len; have e2 := gi.len; unfold pairsT at e1; rw [List.length_map] at e1; lia  
        repeat' (first | ((with_reducible show wpAny _ _ (PySem.call (Value.ref _) _ _) _ _ _); (k_here; (with_reducible show wpAny _ _ (call (Value.ref 228) _ _) _ _ _); k_dflt (refine keys_c (by k_asm) (by with_reducible assumption) (by k_asm) (by with_reducible assumption) (by k_asm) rfl (by first | exact rmN (k := 6) hd rfl | exact rmN (k := 11) hd rfl | exact rmN (k := 16) hd rfl | exact rmN (k := 21) hd rfl | exact rmN (k := 26) hd rfl | ((try dsimp only [ktrTop]); omega)) (by first | exact rmN (k := 43) hu rfl | exact rmN (k := 83) hu rfl | exact rmN (k := 123) hu rfl | exact rmN (k := 163) hu rfl | ((try dsimp only [ktrTop]); omega)) (by first | with_reducible assumption | assumption) (by first | with_reducible assumption | assumption) (by first | with_reducible assumption | assumption) (by first | with_reducible assumption | assumption) (by first | with_reducible assumption | assumption) ?_); intro _ _ _ _ _ _ _ _)) | ((with_reducible show LCg.CompSrc _ _ _ _ _ _ _ _ _ _ _ _ _ _ ); refine Hold.out ?_) | ((with_reducible show wpAny _ _ (exec (Stmt.Assign [_] (Expr.ListComp _ _ _ _) _) _) _ _ _); (k_here; first | ((with_reducible show wpAny _ _ (exec (Stmt.Assign [Expr.Name _ _] (Expr.ListComp _ [⟨Expr.Name _ _, _, [], _⟩] _ _) _) _) _ _ _); k_dflt (refine LCg.Assign_ListComp_U (F₀ := by k_asm) (by rfl) (by with_unfolding_all rfl) (by with_unfolding_all rfl) (by decide) (by rfl) (by decide) (by rfl) (by rfl) (by rfl) ?_)) | ((with_reducible show wpAny _ _ (exec (Stmt.Assign [Expr.Name _ _] (Expr.ListComp _ [⟨Expr.Name _ _, _, [_], _⟩] _ _) _) _) _ _ _); k_dflt (refine LCt.Assign_ListComp_T (F₀ := by k_asm) (by rfl) (by with_unfolding_all rfl) (by with_unfolding_all rfl) (by decide) (by rfl) (by decide) (by rfl) (by rfl) (by rfl) ?_)) | refine Hold.out ?_)) | (k_unfold; (try dsimp only)) | (k_end; kc_close) | walk1 | (dsimp only; first | ((with_reducible show wpAny _ _ (PySem.call (Value.ref _) _ _) _ _ _); (k_here; (with_reducible show wpAny _ _ (call (Value.ref 228) _ _) _ _ _); k_dflt (refine keys_c (by k_asm) (by with_reducible assumption) (by k_asm) (by with_reducible assumption) (by k_asm) rfl (by first | exact rmN (k := 6) hd rfl | exact rmN (k := 11) hd rfl | exact rmN (k := 16) hd rfl | exact rmN (k := 21) hd rfl | exact rmN (k := 26) hd rfl | ((try dsimp only [ktrTop]); omega)) (by first | exact rmN (k := 43) hu rfl | exact rmN (k := 83) hu rfl | exact rmN (k := 123) hu rfl | exact rmN (k := 163) hu rfl | ((try dsimp only [ktrTop]); omega)) (by first | with_reducible assumption | assumption) (by first | with_reducible assumption | assumption) (by first | with_reducible assumption | assumption) (by first | with_reducible assumption | assumption) (by first | with_reducible assumption | assumption) ?_); intro _ _ _ _ _ _ _ _)) | ((with_reducible show LCg.CompSrc _ _ _ _ _ _ _ _ _ _ _ _ _ _ ); refine Hold.out ?_) | ((with_reducible show wpAny _ _ (exec (Stmt.Assign [_] (Expr.ListComp _ _ _ _) _) _) _ _ _); (k_here; first | ((with_reducible show wpAny _ _ (exec (Stmt.Assign [Expr.Name _ _] (Expr.ListComp _ [⟨Expr.Name _ _, _, [], _⟩] _ _) _) _) _ _ _); k_dflt (refine LCg.Assign_ListComp_U (F₀ := by k_asm) (by rfl) (by with_unfolding_all rfl) (by with_unfolding_all rfl) (by decide) (by rfl) (by decide) (by rfl) (by rfl) (by rfl) ?_)) | ((with_reducible show wpAny _ _ (exec (Stmt.Assign [Expr.Name _ _] (Expr.ListComp _ [⟨Expr.Name _ _, _, [_], _⟩] _ _) _) _) _ _ _); k_dflt (refine LCt.Assign_ListComp_T (F₀ := by k_asm) (by rfl) (by with_unfolding_all rfl) (by with_unfolding_all rfl) (by decide) (by rfl) (by decide) (by rfl) (by rfl) (by rfl) ?_)) | refine Hold.out ?_)) | walk1) | (leave1; (try dsimp only)))
        rename Fr _ _ _ _ => F3
        rename News _ _ _ _ => N3
        rename SL _ _ => sK
        rename List Value => ysK
        rw [keys_txt] at sK
        refine Hold.mk (src_U (fun rem ys n => n = (_, LCg.lst ysK) :: (I, oI) :: (PA, lstO vsP eP) :: (BD, oB) :: (RD, oR) :: (L' + 1 + 1 + 1, o1) :: (L' + 1 + 1, o2) :: (L' + 1, o3) :: nn ∧ ∃ dn rs, S.ps = dn ++ rs ∧ SL rem (rs.map txtK) ∧ SL ys (dn.map fun q => letter q.1)) rfl F3 N3 (.head _) ?_ ⟨rfl, [], S.ps, rfl, sK, .nil⟩ ?_ ?_)
        · have e1 := sK.len; rw [List.length_map] at e1; have e2 := gi.len; rw [sizeLine_eq]; lia  
        · rintro s' ⟨gg, rfl⟩ v r ys n I5 oI5 C5 oC5 D5 m₂ h tk E' ⟨rfl, dn, rs, es, sr, sy⟩ hm hC hx F5 N5 off ne
          clear F3 N3
          cases rs with
          | nil => cases sr
          | cons q rs =>
            cases sr with | @cons x tx r l sr =>
            have hq : q.1 < 5 := (lt5 q.1 (by rw [es]; simp)).1
            have okx := okS_txt hq
            repeat' (first | ((with_reducible show wpAny _ _ (PySem.call (Value.builtin "str.lower") _ _) _ _ _); (k_here; k_dflt (refine call_lower (by first | with_reducible assumption | assumption) ?_))) | (k_unfold; (try dsimp only)) | (k_end; kc_close) | walk1 | (dsimp only; first | ((with_reducible show wpAny _ _ (PySem.call (Value.builtin "str.lower") _ _) _ _ _); (k_here; k_dflt (refine call_lower (by first | with_reducible assumption | assumption) ?_))) | walk1) | (leave1; (try dsimp only)))
            rename Fr _ _ _ _ => F6
            rename News _ _ _ _ => N6
            rw [lower_txt hq]
            exact CTo.mk F6 N6 off hm ⟨rfl, dn ++ [q], rs, by rw [es]; simp, sr, by rw [List.map_append]; exact sy.snoc⟩
        · rintro gg ys n ⟨rfl, dn, rs, es, sr, sy⟩ hm
          clear F3 N3
          cases rs with
          | cons q rs => cases sr
          | nil =>
            rw [List.append_nil] at es
            subst es
            k_steps
            rename Fr _ _ _ _ => F6
            rename News _ _ _ _ => N6
            rename _ ∧ _ => oN
            refine hQQ _ _ ?_
            refine Hold.mk ⟨rfl, fun PP kk => kk _ _ _ _ _ _ ((_, LCg.lst ys) :: nn) rfl F6 (News.sub N6 (sub_cons (.tail _ (.tail _ (.head _))) (sub_cons (.tail _ (.tail _ (.tail _ (.head _)))) (sub_cons (.tail _ (.tail _ (.tail _ (.tail _ (.head _))))) (sub_cons (.tail _ (.tail _ (.tail _ (.tail _ (.tail _ (.head _)))))) (sub_cons (.tail _ (.tail _ (.tail _ (.tail _ (.tail _ (.tail _ (.head _))))))) (sub_cons (.tail _ (.tail _ (.tail _ (.tail _ (.tail _ (.tail _ (.tail _ (.head _)))))))) (sub_cons (.tail _ (.tail _ (.tail _ (.tail _ (.tail _ (.tail _ (.tail _ (.tail _ (.head _))))))))) (sub_cons (.head _) fun _ hp => .tail _ (.tail _ (.tail _ (.tail _ (.tail _ (.tail _ (.tail _ (.tail _ (.tail _ (hp)))))))))))))))))) ⟨n1, n2, n3, n4, n5, n6, n7, n8, n9, n10⟩ rfl (.head _) (by rw [List.map_map]; exact sy) (neA oN.2.1.symm (fun p hp => hI p (.tail _ (.tail _ (.tail _ (.tail _ (.tail _ (.tail _ (hp))))))))) (gi.mono (fun _ hp => .tail _ hp) ?_)⟩
            intro p hp
            rcases List.mem_cons.mp hp with rfl | hp
            · exact .inr ⟨oN.2.2.1.symm, oN.2.2.2.1.symm, oN.2.2.2.2.1.symm, oN.2.2.2.2.2.1.symm, oN.2.2.2.2.2.2.1.symm, oN.2.2.2.2.2.2.2.1.symm⟩
            · exact .inl hp
        --]C1
      clear F1 N1 gi n1 n2 n3 n4 n5 n6 n7 n8 n9 n10
      intro s' hPP
      refine hPP _ ?_
      clear hPP
      rintro h' tk m' DN vsN eN nn rfl F1 N1 ⟨n1, n2, n3, n4, n5, n6, n7, n8, n9, n10⟩ n11 mDN sN nI gi
      have mBDx : (BD, oB) ∈ (I, oI) :: (PA, lstO vsP eP) :: (BD, oB) :: (RD, oR) :: (L' + 1 + 1 + 1, o1) :: (L' + 1 + 1, o2) :: (L' + 1, o3) :: nn := .tail _ (.tail _ (.head _))
      have mnn : ∀ p ∈ nn, p ∈ (I, oI) :: (PA, lstO vsP eP) :: (BD, oB) :: (RD, oR) :: (L' + 1 + 1 + 1, o1) :: (L' + 1 + 1, o2) :: (L' + 1, o3) :: nn := fun p hp => .tail _ (.tail _ (.tail _ (.tail _ (.tail _ (.tail _ (.tail _ (hp)))))))
      obtain ⟨kB, dB, tabB⟩ := gi.dB
      have lt5 := gi.G.lt5
      refine exec_split 2 (fun s' => ∀ PP : Prop, (∀ h' tk m' Rb kb tq tn nn', (s' = { s with heap := h', toks := tk, drawn := dr }) → (Fr g' L' h' m') → (News g' L' h' ((I, oI) :: (PA, lstO vsP eP) :: (BD, oB) :: (RD, oR) :: (L' + 1 + 1 + 1, o1) :: (L' + 1 + 1, o2) :: (L' + 1, o3) :: nn')) → (Nm m' OX H DU RD BD PA KL gr lo tg tl tL) → (m' (Str.ofString "names") = some (.ref DN)) → (m' (Str.ofString "best") = some (.ref Rb)) → ((Rb, tupO [.int (durL wt (S.row kb) * lift / durL d (S.row kb)) tq, .str (letter kb) tn]) ∈ nn') → (kb ∈ S.ps.map (·.1)) → (∀ j ∈ S.ps.map (·.1), Ahead d1 (durL wt (S.row kb) * lift / durL d (S.row kb), kb) (durL wt (S.row j) * lift / durL d (S.row j), j)) → ((DN, lstO vsN eN) ∈ nn') → (∀ p ∈ nn', p.1 ≠ I) → (GI w d wt b news PA BD RD H D OX OD KL (L' + 1 + 1 + 1) (L' + 1 + 1) (L' + 1) tH t hh i S oB oR vsP DU nn') → PP) → PP) ?_ ?_
      · refine opqQ ?_
        intro QQ hQQ
        --[C2
        dsimp only [List.take]
        k_steps
        refine For_turns (by assumption) ?_
        k_steps
        generalize hNX : (I, oI) :: (PA, lstO vsP eP) :: (BD, oB) :: (RD, oR) :: (L' + 1 + 1 + 1, o1) :: (L' + 1 + 1, o2) :: (L' + 1, o3) :: nn = NX at *
        rename Fr _ _ _ _ => F3
        rename News _ _ _ _ => N3
        refine for_list (fun rem m₁ n₁ => (∀ p ∈ NX, p ∈ n₁) ∧ Nm m₁ OX H DU RD BD PA KL gr lo tg tl tL ∧ m₁ (Str.ofString "names") = some (.ref DN) ∧ ∃ dn rs, S.ps.map (·.1) = dn ++ rs ∧ SL rem (rs.map letter) ∧
          ((dn = [] ∧ m₁ (Str.ofString "best") = some .none) ∨ (∃ Rb kb tq tn, m₁ (Str.ofString "best") = some (.ref Rb) ∧ (Rb, tupO [.int (durL wt (S.row kb) * lift / durL d (S.row kb)) tq, .str (letter kb) tn]) ∈ n₁ ∧ (∀ q ∈ NX, q.1 < Rb) ∧ kb ∈ dn ∧
            ∀ j ∈ dn, Ahead d1 (durL wt (S.row kb) * lift / durL d (S.row kb), kb) (durL wt (S.row j) * lift / durL d (S.row j), j)))) rfl F3 N3 (mnn _ mDN) rfl rfl ⟨fun _ h => h, ⟨n1, n2, n3, n4, n5, n6, n7, n8, n9, n10⟩, n11, [], _, rfl, sN, .inl ⟨rfl, rfl⟩⟩ ?_ ?_
        · clear F3 N3 n1 n2 n3 n4 n5 n6 n7 n8 n9 n10 n11
          rintro I2 v r m₁ n₁ oI2 h tk ⟨sub, ⟨n1, n2, n3, n4, n5, n6, n7, n8, n9, n10⟩, n11, dn, rs, es, sr, best⟩ hI2 hmm F1 N1
          cases rs with
          | nil => cases sr
          | cons k rs =>
            cases sr with | @cons x tx r l sr =>
            refine assign_local F1 N1 rfl rfl rfl ?_
            clear F1 N1
            intro h1 F1 N1
            refine opq ?_
            intro QT ET hQT
            have hkm : k ∈ S.ps.map (·.1) := by rw [es]; simp
            have hk5 := (lt5 k hkm).1
            obtain ⟨vT, hva, T, Dd, oD, kD, t1, t2, t3, t4, rfl, mT, mDd, loD, dD, cvD⟩ := tabB.2 k hk5
            have wb := gi.R.wei bw (.inr hkm)
            have db := gi.R.dur bd (.inr hkm)
            have nu := nums wb.1 wb.2 db.1 db.2 hlo hlo2 hg1 hg2
            generalize hW : durL wt (S.row k) = W at *
            generalize hD : durL d (S.row k) = DD at *
            generalize hC : costF d wt 0 (S.row k) = CC at *
            obtain ⟨mu1, mu2, mu3, mu4, x0, y0, b1, b2, xy, xb, eq, er, dd0, ddn, ddb⟩ := nu
            have mT' := List.Mem.tail (I2, oI2) (sub _ (mnn _ mT))
            have mBD' := List.Mem.tail (I2, oI2) (sub _ mBDx)
            refine exec_split 4 (fun s' => ∀ PP : Prop, (∀ h' tk m' Rw tq tn, (s' = { s with heap := h', toks := tk, drawn := dr }) → (Fr g' L' h' m') → (News g' L' h' ((I2, oI2) :: (Rw, tupO [.int (W * lift / DD) tq, .str (letter k) tn]) :: n₁)) → (∀ q ∈ (I2, oI2) :: n₁, q.1 < Rw) → (Nm m' OX H DU RD BD PA KL gr lo tg tl tL) → (m' (Str.ofString "names") = some (.ref DN)) → (m' (Str.ofString "row") = some (.ref Rw)) → (m' (Str.ofString "best") = m₁ (Str.ofString "best")) → PP) → PP) ?_ ?_
            · refine opq ?_
              intro QQ EE hQQ
              --[D1
              dsimp only [List.take]
              repeat' (first | ((with_reducible show wpAny _ _ (newTuple _) _ _ _); (k_here; k_dflt (refine kup_newTuple (by k_asm) (by k_asm) ?_ (by kmk_size)); intro _ _ _ _ _)) | ((with_reducible show wpAny _ _ (subscriptTail _ _ _ _) _ _ _); (k_here; (with_reducible show wpAny _ _ (subscriptTail _ _ (Value.ref _) (Value.str _ _)) _ _ _); k_dflt (refine kda_item (knd := PySem.strKind _ _) (by with_reducible assumption) (by k_mem) (by with_reducible assumption) (strKind_is _ _ _ _) (by with_reducible assumption) ?_))) | ((with_reducible show wpAny _ _ (binaryOp Operator.Mult (Value.int _ _) (Value.int _ _)) _ _ _); (k_here; (with_reducible refine mul_int ?_ (by first | with_reducible assumption | assumption)))) | ((with_reducible show wpAny _ _ (PySem.call (Value.ref _) _ _) _ _ _); (k_here; (with_reducible show wpAny _ _ (call (Value.ref 109) _ _) _ _ _); refine Hold.out ?_)) | (k_unfold; (try dsimp only)) | (k_end; kc_close) | walk1 | (dsimp only; first | ((with_reducible show wpAny _ _ (newTuple _) _ _ _); (k_here; k_dflt (refine kup_newTuple (by k_asm) (by k_asm) ?_ (by kmk_size)); intro _ _ _ _ _)) | ((with_reducible show wpAny _ _ (subscriptTail _ _ _ _) _ _ _); (k_here; (with_reducible show wpAny _ _ (subscriptTail _ _ (Value.ref _) (Value.str _ _)) _ _ _); k_dflt (refine kda_item (knd := PySem.strKind _ _) (by with_reducible assumption) (by k_mem) (by with_reducible assumption) (strKind_is _ _ _ _) (by with_reducible assumption) ?_))) | ((with_reducible show wpAny _ _ (binaryOp Operator.Mult (Value.int _ _) (Value.int _ _)) _ _ _); (k_here; (with_reducible refine mul_int ?_ (by first | with_reducible assumption | assumption)))) | ((with_reducible show wpAny _ _ (PySem.call (Value.ref _) _ _) _ _ _); (k_here; (with_reducible show wpAny _ _ (call (Value.ref 109) _ _) _ _ _); refine Hold.out ?_)) | walk1) | (leave1; (try dsimp only)))
              refine Hold.mk (div1_c B' (by k_asm) X' (by with_reducible assumption) T' rfl (by (try dsimp only [ktrTop]); lia  ) (by (try dsimp only [ktrTop]); lia  ) x0 y0 rfl b1 b2 xy xb ?_)
              intro rT tq1 tq2 hT kT FT NT lT
              rw [eq, er] at NT
              repeat' (first | ((with_reducible show wpAny _ _ (newTuple _) _ _ _); (k_here; k_dflt (refine kup_newTuple (by k_asm) (by k_asm) ?_ (by kmk_size)); intro _ _ _ _ _)) | ((with_reducible show wpAny _ _ (binaryOp Operator.Mod (Value.int _ _) (Value.int _ _)) _ _ _); (k_here; k_dflt (refine fmodW (by with_reducible assumption) ?_))) | ((with_reducible show wpAny _ _ (binaryOp Operator.FloorDiv (Value.int _ _) (Value.int _ _)) _ _ _); (k_here; k_dflt (refine fdivW (by with_reducible assumption) (by with_reducible assumption) ?_))) | ((with_reducible show wpAny _ _ (binaryOp Operator.Mult (Value.int _ _) (Value.int _ _)) _ _ _); (k_here; (with_reducible refine mul_int ?_ (by first | with_reducible assumption | assumption)))) | (k_unfold; (try dsimp only)) | (k_end; kc_close) | walk1 | (dsimp only; first | ((with_reducible show wpAny _ _ (newTuple _) _ _ _); (k_here; k_dflt (refine kup_newTuple (by k_asm) (by k_asm) ?_ (by kmk_size)); intro _ _ _ _ _)) | ((with_reducible show wpAny _ _ (binaryOp Operator.Mod (Value.int _ _) (Value.int _ _)) _ _ _); (k_here; k_dflt (refine fmodW (by with_reducible assumption) ?_))) | ((with_reducible show wpAny _ _ (binaryOp Operator.FloorDiv (Value.int _ _) (Value.int _ _)) _ _ _); (k_here; k_dflt (refine fdivW (by with_reducible assumption) (by with_reducible assumption) ?_))) | ((with_reducible show wpAny _ _ (binaryOp Operator.Mult (Value.int _ _) (Value.int _ _)) _ _ _); (k_here; (with_reducible refine mul_int ?_ (by first | with_reducible assumption | assumption)))) | walk1) | (leave1; (try dsimp only)))
              rename Fr _ _ _ _ => F6
              rename News _ _ _ _ => N6
              rename ∀ p : Addr × Obj, p ∈ _ → p.1 < _ => lz
              refine hQQ _ _ ?_
              exact Hold.mk ⟨rfl, fun PP kk => kk _ _ _ _ _ _ rfl F6 (News.sub N6 (sub_cons (.tail _ (.tail _ (.tail _ (.tail _ (.head _))))) (sub_cons (.head _) fun _ hp => .tail _ (.tail _ (.tail _ (.tail _ (.tail _ (hp)))))))) (fun q hq => lz q (.tail _ (.tail _ (.tail _ (hq))))) ⟨n1, n2, n3, n4, n5, n6, n7, n8, n9, n10⟩ n11 rfl rfl⟩
              --]D1
            dsimp only [List.drop]
            clear F1 N1 n1 n2 n3 n4 n5 n6 n7 n8 n9 n10 n11 mT' mBD' mu1 mu2 mu3 mu4 x0 y0 b1 b2 xy xb eq er
            intro s' hPP
            refine hPP _ ?_
            clear hPP
            rintro h' tk m' Rw tq tn rfl F1 N1 lR ⟨n1, n2, n3, n4, n5, n6, n7, n8, n9, n10⟩ n11 n12 n13
            have sub2 : ∀ p ∈ NX, p ∈ (I2, oI2) :: (Rw, tupO [.int (W * lift / DD) tq, .str (letter k) tn]) :: n₁ := fun p hp => .tail _ (.tail _ (sub p hp))
            have mX := sub2 _ (mnn _ gi.mX)
            have mO := sub2 _ (mnn _ gi.mO)
            have mK' := sub2 _ (mnn _ (gi.mN _ mK))
            have mK0' := sub2 _ (mnn _ (gi.mN _ mK0))
            have mK1' := sub2 _ (mnn _ (gi.mN _ mK1))
            have mRw : (Rw, tupO [.int (W * lift / DD) tq, .str (letter k) tn]) ∈ (I2, oI2) :: (Rw, tupO [.int (W * lift / DD) tq, .str (letter k) tn]) :: n₁ := .tail _ (.head _)
            have off2 : ∀ p ∈ (Rw, tupO [.int (W * lift / DD) tq, .str (letter k) tn]) :: n₁, p.1 ≠ I2 := neA (Nat.ne_of_gt (lR _ (.head _))) hI2
            have hK : ∀ p ∈ [(DN, lstO vsN eN)], p ∈ (Rw, tupO [.int (W * lift / DD) tq, .str (letter k) tn]) :: n₁ := fun p hp => by rw [List.mem_singleton.mp hp]; exact .tail _ (sub _ (mnn _ mDN))
            have lRN : ∀ q ∈ NX, q.1 < Rw := fun q hq => lR q (.tail _ (sub q hq))
            rcases best with ⟨rfl, eb⟩ | ⟨Rb, kb, tqb, tnb, eb, mRb, lRb, hkb, hah⟩
            · --[D2
              rw [eb] at n13
              repeat' (first | ((with_reducible show wpAny _ _ (PySem.call (Value.ref _) _ _) _ _ _); (k_here; (with_reducible show wpAny _ _ (call (Value.ref 59) _ _) _ _ _); refine Hold.out ?_)) | (k_unfold; (try dsimp only)) | (k_end; kc_close) | walk1 | (dsimp only; first | ((with_reducible show wpAny _ _ (PySem.call (Value.ref _) _ _) _ _ _); (k_here; (with_reducible show wpAny _ _ (call (Value.ref 59) _ _) _ _ _); refine Hold.out ?_)) | walk1) | (leave1; (try dsimp only)))
              refine Hold.mk (compare_c B' (by k_asm) X' (by with_reducible assumption) T' rfl (by (try dsimp only [ktrTop]); lia  ) (by (try dsimp only [ktrTop]); lia  ) mX mO mK' mK0' mK1' mRw mRw ?_)
              intro vC tC hC kC eC FC NC
              rw [cmp_self] at eC
              subst eC
              clear F1 N1
              k_steps
              rename Fr _ _ _ _ => F6
              rename News _ _ _ _ => N6
              subst hW
              subst hD
              refine hQT _ _ ?_
              exact TurnTo.mk F6 N6 off2 hK ⟨fun p hp => .tail _ (sub p hp), ⟨n1, n2, n3, n4, n5, n6, n7, n8, n9, n10⟩, n11, [k], rs, by simpa using es, sr, .inr ⟨Rw, k, tq, tn, rfl, .head _, lRN, by simp, fun j hj => by rw [List.mem_singleton.mp hj]; exact Ahead.refl⟩⟩
              --]D2
            · --[D3
              rw [eb] at n13
              have mRb' := List.Mem.tail (I2, oI2) (List.Mem.tail (Rw, tupO [.int (W * lift / DD) tq, .str (letter k) tn]) mRb)
              repeat' (first | ((with_reducible show wpAny _ _ (PySem.call (Value.ref _) _ _) _ _ _); (k_here; (with_reducible show wpAny _ _ (call (Value.ref 59) _ _) _ _ _); refine Hold.out ?_)) | (k_unfold; (try dsimp only)) | (k_end; kc_close) | walk1 | (dsimp only; first | ((with_reducible show wpAny _ _ (PySem.call (Value.ref _) _ _) _ _ _); (k_here; (with_reducible show wpAny _ _ (call (Value.ref 59) _ _) _ _ _); refine Hold.out ?_)) | walk1) | (leave1; (try dsimp only)))
              refine Hold.mk (compare_c B' (by k_asm) X' (by with_reducible assumption) T' rfl (by (try dsimp only [ktrTop]); lia  ) (by (try dsimp only [ktrTop]); lia  ) mX mO mK' mK0' mK1' mRw mRw ?_)
              intro vC tC hC kC eC FC NC
              rw [cmp_self] at eC
              subst eC
              clear F1 N1
              repeat' (first | ((with_reducible show wpAny _ _ (PySem.call (Value.ref _) _ _) _ _ _); (k_here; (with_reducible show wpAny _ _ (call (Value.ref 59) _ _) _ _ _); refine Hold.out ?_)) | (k_unfold; (try dsimp only)) | (k_end; kc_close) | walk1 | (dsimp only; first | ((with_reducible show wpAny _ _ (PySem.call (Value.ref _) _ _) _ _ _); (k_here; (with_reducible show wpAny _ _ (call (Value.ref 59) _ _) _ _ _); refine Hold.out ?_)) | walk1) | (leave1; (try dsimp only)))
              refine Hold.mk (compare_c B' (by k_asm) X' (by with_reducible assumption) T' rfl (by (try dsimp only [ktrTop]); lia  ) (by (try dsimp only [ktrTop]); lia  ) mX mO mK' mK0' mK1' mRw mRb' ?_)
              intro v1 t1 hC1 kC1 e1 F1 N1
              clear FC NC
              repeat' (first | ((with_reducible show wpAny _ _ (PySem.call (Value.ref _) _ _) _ _ _); (k_here; (with_reducible show wpAny _ _ (call (Value.ref 59) _ _) _ _ _); refine Hold.out ?_)) | (k_unfold; (try dsimp only)) | (k_end; kc_close) | walk1 | (dsimp only; first | ((with_reducible show wpAny _ _ (PySem.call (Value.ref _) _ _) _ _ _); (k_here; (with_reducible show wpAny _ _ (call (Value.ref 59) _ _) _ _ _); refine Hold.out ?_)) | walk1) | (leave1; (try dsimp only)))
              refine Hold.mk (compare_c B' (by k_asm) X' (by with_reducible assumption) T' rfl (by (try dsimp only [ktrTop]); lia  ) (by (try dsimp only [ktrTop]); lia  ) mX mO mK' mK0' mK1' mRb' mRw ?_)
              intro v2 t2 hC2 kC2 e2 F2 N2
              have e3 : v1 = -v2 := by rw [e1, e2]; exact cmp_neg
              clear F1 N1
              repeat' (first | ((with_reducible show wpAny _ _ (PySem.call (Value.ref _) _ _) _ _ _); (k_here; (with_reducible show wpAny _ _ (call (Value.ref 59) _ _) _ _ _); refine Hold.out ?_)) | (k_unfold; (try dsimp only)) | (k_end; kc_close) | walk1 | (dsimp only; first | ((with_reducible show wpAny _ _ (PySem.call (Value.ref _) _ _) _ _ _); (k_here; (with_reducible show wpAny _ _ (call (Value.ref 59) _ _) _ _ _); refine Hold.out ?_)) | walk1) | (leave1; (try dsimp only)))
              · exfalso
                rename v1 ≠ -v2 => hc
                exact hc e3
              · refine Hold.mk (compare_c B' (by k_asm) X' (by with_reducible assumption) T' rfl (by (try dsimp only [ktrTop]); lia  ) (by (try dsimp only [ktrTop]); lia  ) mX mO mK' mK0' mK1' mRw mRb' ?_)
                intro v3 t3 hC3 kC3 e4 F3 N3
                clear F2 N2
                k_steps
                · rename v3 < 0 => hc
                  rw [e4] at hc
                  have ha := cmp_ahead hd0 hd1 hc
                  rename Fr _ _ _ _ => F6
                  rename News _ _ _ _ => N6
                  subst hW
                  subst hD
                  refine hQT _ _ ?_
                  exact TurnTo.mk F6 N6 off2 hK ⟨fun p hp => .tail _ (sub p hp), ⟨n1, n2, n3, n4, n5, n6, n7, n8, n9, n10⟩, n11, dn ++ [k], rs, by rw [es]; simp, sr, .inr ⟨Rw, k, tq, tn, rfl, .head _, lRN, by simp, fun j hj => by
                    rcases List.mem_append.mp hj with hj | hj
                    · exact ha.trans (hah j hj)
                    · rw [List.mem_singleton.mp hj]; exact Ahead.refl⟩⟩
                · rename ¬ v3 < 0 => hc
                  rw [e4] at hc
                  have ha := cmp_not hd0 hd1 hc
                  rename Fr _ _ _ _ => F6
                  rename News _ _ _ _ => N6
                  subst hW
                  subst hD
                  refine hQT _ _ ?_
                  exact TurnTo.mk F6 N6 off2 hK ⟨fun p hp => .tail _ (sub p hp), ⟨n1, n2, n3, n4, n5, n6, n7, n8, n9, n10⟩, n11, dn ++ [k], rs, by rw [es]; simp, sr, .inr ⟨Rb, kb, tqb, tnb, n13, .tail _ mRb, lRb, List.mem_append_left _ hkb, fun j hj => by
                    rcases List.mem_append.mp hj with hj | hj
                    · exact hah j hj
                    · rw [List.mem_singleton.mp hj]; exact ha⟩⟩
              --]D3
        · rintro m₁ n₁ h tk ⟨sub, nm, n11', dn, rs, es, sr, best⟩ F1 N1
          cases rs with
          | cons k rs => cases sr
          | nil =>
            rw [List.append_nil] at es
            rcases best with ⟨rfl, _⟩ | ⟨Rb, kb, tqb, tnb, eb, mRb, lRb, hkb, hah⟩
            · exfalso
              have e1 := congrArg List.length es
              rw [List.length_map] at e1
              have := gi.len
              simp at e1
              rw [e1] at this
              simp at this
              lia  
            · clear F3 N3
              k_steps
              subst hNX
              refine hQQ _ _ ?_
              refine Hold.mk ⟨rfl, fun PP kk => kk _ _ _ Rb kb tqb tnb ((Rb, tupO [.int (durL wt (S.row kb) * lift / durL d (S.row kb)) tqb, .str (letter kb) tnb]) :: nn) rfl F1 (News.sub N1 (sub_cons (sub _ (.head _)) (sub_cons (sub _ (.tail _ (.head _))) (sub_cons (sub _ (.tail _ (.tail _ (.head _)))) (sub_cons (sub _ (.tail _ (.tail _ (.tail _ (.head _))))) (sub_cons (sub _ (.tail _ (.tail _ (.tail _ (.tail _ (.head _)))))) (sub_cons (sub _ (.tail _ (.tail _ (.tail _ (.tail _ (.tail _ (.head _))))))) (sub_cons (sub _ (.tail _ (.tail _ (.tail _ (.tail _ (.tail _ (.tail _ (.head _)))))))) (sub_cons mRb fun p hp => sub p (mnn p hp)))))))))) nm n11' eb (.head _) (es ▸ hkb) (es ▸ hah) (.tail _ mDN) (neA (Nat.ne_of_gt (lRb _ (.head _))) nI) (gi.mono (fun _ hp => .tail _ hp) ?_)⟩
              intro p hp
              rcases List.mem_cons.mp hp with rfl | hp
              · exact .inr ⟨Nat.ne_of_gt (lRb _ (.tail _ (.head _))), Nat.ne_of_gt (lRb _ (.tail _ (.tail _ (.head _)))), Nat.ne_of_gt (lRb _ (.tail _ (.tail _ (.tail _ (.head _))))), Nat.ne_of_gt (lRb _ (.tail _ (.tail _ (.tail _ (.tail _ (.head _)))))), Nat.ne_of_gt (lRb _ (.tail _ (.tail _ (.tail _ (.tail _ (.tail _ (.head _))))))), Nat.ne_of_gt (lRb _ (.tail _ (.tail _ (.tail _ (.tail _ (.tail _ (.tail _ (.head _))))))))⟩
              · exact .inl hp
        --]C2
      dsimp only [List.drop]
      clear F1 N1 gi dB tabB n1 n2 n3 n4 n5 n6 n7 n8 n9 n10 n11 mBDx mnn mDN nI
      intro s' hPP
      refine hPP _ ?_
      clear hPP
      rintro h' tk m' Rb kb tqb tnb nn rfl F1 N1 ⟨n1, n2, n3, n4, n5, n6, n7, n8, n9, n10⟩ n11 n12 mRb hkb hah mDN nI gi
      have f1 := gi.f1
      have f2 := gi.f2
      have f3 := gi.f3
      have f4 := gi.f4
      have f5 := gi.f5
      have f6 := gi.f6
      obtain ⟨kB, dB, tabB⟩ := gi.dB
      have lt5 := gi.G.lt5
      have hkb5 := (lt5 kb hkb).1
      obtain ⟨vTp, hvp, Tp, Dp, oDp, kDp, tp1, tp2, tp3, tp4, rfl, mTp, mDp, loDp, dDp, cvDp⟩ := tabB.2 kb hkb5
      have wbp := gi.R.wei bw (.inr hkb)
      have dbp := gi.R.dur bd (.inr hkb)
      refine exec_split 2 (fun s' => ∀ PP : Prop, (∀ h' tk m' op, (s' = { s with heap := h', toks := tk, drawn := dr }) → (Fr g' L' h' m') → (News g' L' h' ((I, oI) :: (PA, lstO vsP eP) :: (BD, oB) :: (RD, oR) :: (L' + 1 + 1 + 1, o1) :: (L' + 1 + 1, o2) :: (L' + 1, op) :: nn)) → (op.data = .cell (some (.str (letter kb) tnb))) → (Nm m' OX H DU RD BD PA KL gr lo tg tl tL) → PP) → PP) ?_ ?_
      · refine opqQ ?_
        intro QQ hQQ
        --[C3
        dsimp only [List.take]
        k_steps
        refine For_turns (by assumption) ?_
        k_steps
        rename Fr _ _ _ _ => F3
        rename News _ _ _ _ => N3
        rename Obj => op
        rename op.data = _ => hop
        have mBDx : (BD, oB) ∈ (I, oI) :: (PA, lstO vsP eP) :: (BD, oB) :: (RD, oR) :: (L' + 1 + 1 + 1, o1) :: (L' + 1 + 1, o2) :: (L' + 1, op) :: nn := .tail _ (.tail _ (.head _))
        have mPx : (L' + 1, op) ∈ (I, oI) :: (PA, lstO vsP eP) :: (BD, oB) :: (RD, oR) :: (L' + 1 + 1 + 1, o1) :: (L' + 1 + 1, o2) :: (L' + 1, op) :: nn := .tail _ (.tail _ (.tail _ (.tail _ (.tail _ (.tail _ (.head _))))))
        have mnn : ∀ p ∈ nn, p ∈ (I, oI) :: (PA, lstO vsP eP) :: (BD, oB) :: (RD, oR) :: (L' + 1 + 1 + 1, o1) :: (L' + 1 + 1, o2) :: (L' + 1, op) :: nn := fun p hp => .tail _ (.tail _ (.tail _ (.tail _ (.tail _ (.tail _ (.tail _ (hp)))))))
        generalize hNX : (I, oI) :: (PA, lstO vsP eP) :: (BD, oB) :: (RD, oR) :: (L' + 1 + 1 + 1, o1) :: (L' + 1 + 1, o2) :: (L' + 1, op) :: nn = NX at N3 mBDx mnn mPx
        refine for_list (fun rem m₁ n₁ => n₁ = NX ∧ Nm m₁ OX H DU RD BD PA KL gr lo tg tl tL ∧ ∃ dn rs, S.ps.map (·.1) = dn ++ rs ∧ SL rem (rs.map letter)) rfl F3 N3 (mnn _ mDN) rfl rfl ⟨rfl, ⟨n1, n2, n3, n4, n5, n6, n7, n8, n9, n10⟩, [], _, rfl, sN⟩ ?_ ?_
        · clear F3 N3 n1 n2 n3 n4 n5 n6 n7 n8 n9 n10 n11 n12
          rintro I2 v r m₁ n₁ oI2 h tk ⟨rfl, ⟨n1, n2, n3, n4, n5, n6, n7, n8, n9, n10⟩, dn, rs, es, sr⟩ hI2 hmm F1 N1
          cases rs with
          | nil => cases sr
          | cons k rs =>
            cases sr with | @cons x tx r l sr =>
            have hkm : k ∈ S.ps.map (·.1) := by rw [es]; simp
            have hk5 := (lt5 k hkm).1
            obtain ⟨vT, hva, T, Dd, oD, kD, t1, t2, t3, t4, rfl, mT, mDd, loD, dD, cvD⟩ := tabB.2 k hk5
            have wb := gi.R.wei bw (.inr hkm)
            have db := gi.R.dur bd (.inr hkm)
            obtain ⟨hle, hord⟩ := best_is dbp.1 dbp.2 db.1 db.2 (hah k hkm) hd1
            have mu1 := small_mul wb.1 (by lia  ) (by lia  ) (show durL d (S.row kb) ≤ 1000 by lia  )
            have mu2 := small_mul wbp.1 (by lia  ) (by lia  ) (show durL d (S.row k) ≤ 1000 by lia  )
            have mu3 := ord_mul hd1 hk5
            have mu4 := ord_mul hd1 hkb5
            generalize durL wt (S.row k) = W at *
            generalize durL d (S.row k) = DD at *
            generalize costF d wt 0 (S.row k) = CC at *
            generalize durL wt (S.row kb) = WP at *
            generalize durL d (S.row kb) = DP at *
            generalize costF d wt 0 (S.row kb) = CP at *
            have mT' := List.Mem.tail (I2, oI2) (mnn _ mT)
            have mTp' := List.Mem.tail (I2, oI2) (mnn _ mTp)
            have mBD' := List.Mem.tail (I2, oI2) mBDx
            have mP' := List.Mem.tail (I2, oI2) mPx
            have mK' := List.Mem.tail (I2, oI2) (mnn _ (gi.mN _ mK))
            have mK1' := List.Mem.tail (I2, oI2) (mnn _ (gi.mN _ mK1))
            change wpAny _ _ (assign _ _ (.str (letter k) tx)) _ _ _
            refine assign_local F1 N1 rfl rfl rfl ?_
            clear F1 N1
            intro h1 F1 N1
            refine opq ?_
            intro QT ET hQT
            have hK : ∀ p ∈ [(DN, lstO vsN eN)], p ∈ n₁ := fun p hp => by rw [List.mem_singleton.mp hp]; exact mnn _ mDN
            repeat' (first | ((with_reducible show wpAny _ _ (subscriptTail _ _ _ _) _ _ _); (k_here; (with_reducible show wpAny _ _ (subscriptTail _ _ (Value.ref _) (Value.int 1 _)) _ _ _); k_dflt (refine sub_list1 (by with_reducible assumption) (by k_mem) ?_))) | ((with_reducible show wpAny _ _ (PySem.call (Value.builtin "ord") _ _) _ _ _); (k_here; k_dflt (refine ord_letter ?_))) | ((with_reducible show wpAny _ _ (subscriptTail _ _ _ _) _ _ _); (k_here; (with_reducible show wpAny _ _ (subscriptTail _ _ (Value.ref _) (Value.str _ _)) _ _ _); k_dflt (refine kda_item (knd := PySem.strKind _ _) (by with_reducible assumption) (by k_mem) (by with_reducible assumption) (strKind_is _ _ _ _) (by with_reducible assumption) ?_))) | ((with_reducible show wpAny _ _ (binaryOp Operator.Mult (Value.int _ _) (Value.int _ _)) _ _ _); (k_here; (with_reducible refine mul_int ?_ (by first | with_reducible assumption | assumption)))) | (k_unfold; (try dsimp only)) | (k_end; kc_close) | walk1 | (dsimp only; first | ((with_reducible show wpAny _ _ (subscriptTail _ _ _ _) _ _ _); (k_here; (with_reducible show wpAny _ _ (subscriptTail _ _ (Value.ref _) (Value.int 1 _)) _ _ _); k_dflt (refine sub_list1 (by with_reducible assumption) (by k_mem) ?_))) | ((with_reducible show wpAny _ _ (PySem.call (Value.builtin "ord") _ _) _ _ _); (k_here; k_dflt (refine ord_letter ?_))) | ((with_reducible show wpAny _ _ (subscriptTail _ _ _ _) _ _ _); (k_here; (with_reducible show wpAny _ _ (subscriptTail _ _ (Value.ref _) (Value.str _ _)) _ _ _); k_dflt (refine kda_item (knd := PySem.strKind _ _) (by with_reducible assumption) (by k_mem) (by with_reducible assumption) (strKind_is _ _ _ _) (by with_reducible assumption) ?_))) | ((with_reducible show wpAny _ _ (binaryOp Operator.Mult (Value.int _ _) (Value.int _ _)) _ _ _); (k_here; (with_reducible refine mul_int ?_ (by first | with_reducible assumption | assumption)))) | walk1) | (leave1; (try dsimp only)))
            · exact absurd (by assumption) (hord (by assumption))
            · rename Fr _ _ _ _ => F6
              rename News _ _ _ _ => N6
              refine hQT _ _ ?_
              exact TurnTo.mk F6 N6 hI2 hK ⟨rfl, ⟨n1, n2, n3, n4, n5, n6, n7, n8, n9, n10⟩, dn ++ [k], rs, by rw [es]; simp, sr⟩
            · rename Fr _ _ _ _ => F6
              rename News _ _ _ _ => N6
              refine hQT _ _ ?_
              exact TurnTo.mk F6 N6 hI2 hK ⟨rfl, ⟨n1, n2, n3, n4, n5, n6, n7, n8, n9, n10⟩, dn ++ [k], rs, by rw [es]; simp, sr⟩
        · rintro m₁ n₁ h tk ⟨rfl, nm, _⟩ F1 N1
          clear F3 N3
          k_steps
          subst hNX
          refine hQQ _ _ ?_
          exact Hold.mk ⟨rfl, fun PP kk => kk _ _ _ _ rfl F1 N1 hop nm⟩
        --]C3
      dsimp only [List.drop]
      clear F1 N1 n1 n2 n3 n4 n5 n6 n7 n8 n9 n10 n11 n12
      intro s' hPP
      refine hPP _ ?_
      clear hPP
      rintro h' tk m' op rfl F1 N1 hop ⟨n1, n2, n3, n4, n5, n6, n7, n8, n9, n10⟩
      have hal := (gi.G.pl kb hkb).2
      have hh5 : S.par kb < 5 := (lt5 kb hkb).2
      obtain ⟨xf, hf⟩ := pairs_find hkb lt5
      obtain ⟨vTh, hvh, Th, Dh, oDh, kDh, th1, th2, th3, th4, rfl, mTh, mDh, loDh, dDh, cvDh⟩ := tabB.2 (S.par kb) hh5
      refine exec_split 3 (fun s' => ∀ PP : Prop, (∀ h' tk m' ol oh th, (s' = { s with heap := h', toks := tk, drawn := dr }) → (Fr g' L' h' m') → (News g' L' h' ((I, oI) :: (PA, lstO vsP eP) :: (BD, oB) :: (RD, oR) :: (L' + 1 + 1 + 1, ol) :: (L' + 1 + 1, oh) :: (L' + 1, op) :: nn)) → (oh.data = .cell (some (.str (letter (S.par kb)) th))) → (ol.data = .cell (some (.int (durL d (S.row (S.par kb))) th2))) → (Nm m' OX H DU RD BD PA KL gr lo tg tl tL) → (m' (Str.ofString "old") = some (.ref Th)) → PP) → PP) ?_ ?_
      · refine opq ?_
        intro QQ EE hQQ
        --[C4
        dsimp only [List.take]
        have on : OkS (Txt.upper (letter kb)) := by rw [upper_letter kb hkb5]; exact okS_upper hkb5
        have oln : OkS (Txt.lower (Txt.upper (letter kb))) := by rw [upper_letter kb hkb5, lower_upper kb hkb5]; exact okS_letter hkb5
        have mH2 : (H, instObj 276 D) ∈ (I, oI) :: (PA, lstO vsP eP) :: (BD, oB) :: (RD, oR) :: (L' + 1 + 1 + 1, o1) :: (L' + 1 + 1, o2) :: (L' + 1, op) :: nn := .tail _ (.tail _ (.tail _ (.tail _ (.tail _ (.tail _ (.tail _ (gi.mH)))))))
        have mD2 : (D, hdD w PA tH) ∈ (I, oI) :: (PA, lstO vsP eP) :: (BD, oB) :: (RD, oR) :: (L' + 1 + 1 + 1, o1) :: (L' + 1 + 1, o2) :: (L' + 1, op) :: nn := .tail _ (.tail _ (.tail _ (.tail _ (.tail _ (.tail _ (.tail _ (gi.mD)))))))
        have ml2 : (PA, lstO vsP eP) ∈ (I, oI) :: (PA, lstO vsP eP) :: (BD, oB) :: (RD, oR) :: (L' + 1 + 1 + 1, o1) :: (L' + 1 + 1, o2) :: (L' + 1, op) :: nn := .tail _ (.head _)
        have pl2 : PL ((I, oI) :: (PA, lstO vsP eP) :: (BD, oB) :: (RD, oR) :: (L' + 1 + 1 + 1, o1) :: (L' + 1 + 1, o2) :: (L' + 1, op) :: nn) vsP (pairsT S) := gi.plP.mono fun p hp => .tail _ (.tail _ (.tail _ (.tail _ (.tail _ (.tail _ (.tail _ (hp)))))))
        have opk := okP_pairs lt5
        repeat' (first | ((with_reducible show wpAny _ _ (PySem.call (Value.ref _) _ _) _ _ _); (k_here; (with_reducible show wpAny _ _ (call (Value.ref 223) _ _) _ _ _); k_dflt (refine get_c (ln := Str.empty) (by k_asm) (by with_reducible assumption) (by k_asm) (by with_reducible assumption) (by k_asm) rfl (by first | exact rmN (k := 6) hd rfl | exact rmN (k := 11) hd rfl | exact rmN (k := 16) hd rfl | exact rmN (k := 21) hd rfl | exact rmN (k := 26) hd rfl | ((try dsimp only [ktrTop]); omega)) (by first | exact rmN (k := 43) hu rfl | exact rmN (k := 83) hu rfl | exact rmN (k := 123) hu rfl | exact rmN (k := 163) hu rfl | ((try dsimp only [ktrTop]); omega)) (by first | with_reducible assumption | assumption) (by first | with_reducible assumption | assumption) (by first | with_reducible assumption | assumption) (by first | with_reducible assumption | assumption) (by first | with_reducible assumption | assumption) (by first | with_reducible assumption | assumption) (by first | with_reducible assumption | assumption) (by with_reducible assumption) ?_); intro _ _ _ _ _)) | ((with_reducible show wpAny _ _ (PySem.call (Value.builtin "str.upper") _ _) _ _ _); (k_here; k_dflt (refine call_upper (by first | with_reducible assumption | exact Nat.le_of_ble_eq_true rfl) ?_))) | ((with_reducible show wpAny _ _ (subscriptTail _ _ _ _) _ _ _); (k_here; (with_reducible show wpAny _ _ (subscriptTail _ _ (Value.ref _) (Value.str _ _)) _ _ _); k_dflt (refine kda_item (knd := PySem.strKind _ _) (by with_reducible assumption) (by k_mem) (by with_reducible assumption) (strKind_is _ _ _ _) (by with_reducible assumption) ?_))) | (k_unfold; (try dsimp only)) | (k_end; kc_close) | walk1 | (dsimp only; first | ((with_reducible show wpAny _ _ (PySem.call (Value.ref _) _ _) _ _ _); (k_here; (with_reducible show wpAny _ _ (call (Value.ref 223) _ _) _ _ _); k_dflt (refine get_c (ln := Str.empty) (by k_asm) (by with_reducible assumption) (by k_asm) (by with_reducible assumption) (by k_asm) rfl (by first | exact rmN (k := 6) hd rfl | exact rmN (k := 11) hd rfl | exact rmN (k := 16) hd rfl | exact rmN (k := 21) hd rfl | exact rmN (k := 26) hd rfl | ((try dsimp only [ktrTop]); omega)) (by first | exact rmN (k := 43) hu rfl | exact rmN (k := 83) hu rfl | exact rmN (k := 123) hu rfl | exact rmN (k := 163) hu rfl | ((try dsimp only [ktrTop]); omega)) (by first | with_reducible assumption | assumption) (by first | with_reducible assumption | assumption) (by first | with_reducible assumption | assumption) (by first | with_reducible assumption | assumption) (by first | with_reducible assumption | assumption) (by first | with_reducible assumption | assumption) (by first | with_reducible assumption | assumption) (by with_reducible assumption) ?_); intro _ _ _ _ _)) | ((with_reducible show wpAny _ _ (PySem.call (Value.builtin "str.upper") _ _) _ _ _); (k_here; k_dflt (refine call_upper (by first | with_reducible assumption | exact Nat.le_of_ble_eq_true rfl) ?_))) | ((with_reducible show wpAny _ _ (subscriptTail _ _ _ _) _ _ _); (k_here; (with_reducible show wpAny _ _ (subscriptTail _ _ (Value.ref _) (Value.str _ _)) _ _ _); k_dflt (refine kda_item (knd := PySem.strKind _ _) (by with_reducible assumption) (by k_mem) (by with_reducible assumption) (strKind_is _ _ _ _) (by with_reducible assumption) ?_))) | walk1) | (leave1; (try dsimp only)))
        rename Fr _ _ _ _ => F6
        rename News _ _ _ _ => N6
        refine hQQ _ _ ?_
        exact Hold.mk ⟨rfl, fun PP kk => kk _ _ _ _ _ _ rfl F6 N6 (by assumption) (by assumption) ⟨n1, n2, n3, n4, n5, n6, n7, n8, n9, n10⟩ rfl⟩
        --]C4
      dsimp only [List.drop]
      clear F1 N1 n1 n2 n3 n4 n5 n6 n7 n8 n9 n10
      intro s' hPP
      refine hPP _ ?_
      clear hPP
      rintro h' tk m' ol oh th rfl F1 N1 hoh hol ⟨n1, n2, n3, n4, n5, n6, n7, n8, n9, n10⟩ n11
      have hlenh := gi.R.len hal
      refine exec_join (fun s' => ∀ PP : Prop, (∀ h' tk m' KE vsK eK nn', (s' = { s with heap := h', toks := tk, drawn := dr }) → (Fr g' L' h' m') → (News g' L' h' ((I, oI) :: (PA, lstO vsP eP) :: (BD, oB) :: (RD, oR) :: (L' + 1 + 1 + 1, ol) :: (L' + 1 + 1, oh) :: (L' + 1, op) :: nn')) → ((KE, lstO vsK eK) ∈ nn') → (DatAll nn' vsK ((untilF d 0 (S.row (S.par kb))).map intD)) → (∀ p ∈ nn, p ∈ nn') → (∀ p ∈ nn', p.1 ≠ I) → (GI w d wt b news PA BD RD H D OX OD KL (L' + 1 + 1 + 1) (L' + 1 + 1) (L' + 1) tH t hh i S oB oR vsP DU nn') → (Nm m' OX H DU RD BD PA KL gr lo tg tl tL) → (m' (Str.ofString "old") = some (.ref Th)) → (m' (Str.ofString "kept") = some (.ref KE)) → PP) → PP) ?_ ?_
      · refine opq ?_
        intro QQ EE hQQ
        --[C5
        have mTh' : (Th, tupO [.int ((S.row (S.par kb)).length : Int) th1, .int (durL d (S.row (S.par kb))) th2, .int (durL wt (S.row (S.par kb))) th3, .int (costF d wt 0 (S.row (S.par kb))) th4, .ref Dh]) ∈ (I, oI) :: (PA, lstO vsP eP) :: (BD, oB) :: (RD, oR) :: (L' + 1 + 1 + 1, ol) :: (L' + 1 + 1, oh) :: (L' + 1, op) :: nn := .tail _ (.tail _ (.tail _ (.tail _ (.tail _ (.tail _ (.tail _ (mTh)))))))
        have mDh' : (Dh, oDh) ∈ (I, oI) :: (PA, lstO vsP eP) :: (BD, oB) :: (RD, oR) :: (L' + 1 + 1 + 1, ol) :: (L' + 1 + 1, oh) :: (L' + 1, op) :: nn := .tail _ (.tail _ (.tail _ (.tail _ (.tail _ (.tail _ (.tail _ (mDh)))))))
        have hcl : (untilF d 0 (S.row (S.par kb))).length ≤ 1000 := by rw [untilF_len]; lia  
        repeat' (first | ((with_reducible show wpAny _ _ (PySem.call (Value.type "list") _ _) _ _ _); (k_here; (with_reducible show wpAny _ _ (call (Value.type _) [Value.ref _]) _ _ _); k_dflt (refine list_items rfl (by with_reducible assumption) (by with_reducible assumption) (by first | exact List.Mem.head _ | k_mem) (by first | with_reducible assumption | exact List.Mem.tail _ (by first | with_reducible assumption | assumption) | exact List.Mem.tail _ (List.Mem.tail _ (List.Mem.tail _ (by first | with_reducible assumption | assumption)))) (by with_reducible assumption) (by with_reducible assumption) (by with_reducible assumption) ?_); intro _ _ _ _ _ _ _ _ _ _ _)) | ((with_reducible show wpAny _ _ (PySem.call (Value.builtin "dict.items") _ _) _ _ _); (k_here; k_dflt (refine kdx_view (by with_reducible assumption) (by with_reducible assumption) (by k_mem) (by with_reducible assumption) (by with_reducible assumption) ?_); intro _ _ _ _ _)) | ((k_here; (with_reducible show wpAny _ _ (getMethod (Value.ref _) (PySem.Str.ofString "items") _) _ _ _); k_dflt (refine kdl_method (knd := PySem.strKind _ _) PySem.F.slot_dict_items PySem.F.type_dict_items (by with_reducible assumption) (by k_mem) (by with_reducible assumption) ?_))) | (k_unfold; (try dsimp only)) | (k_end; kc_close) | walk1 | (dsimp only; first | ((with_reducible show wpAny _ _ (PySem.call (Value.type "list") _ _) _ _ _); (k_here; (with_reducible show wpAny _ _ (call (Value.type _) [Value.ref _]) _ _ _); k_dflt (refine list_items rfl (by with_reducible assumption) (by with_reducible assumption) (by first | exact List.Mem.head _ | k_mem) (by first | with_reducible assumption | exact List.Mem.tail _ (by first | with_reducible assumption | assumption) | exact List.Mem.tail _ (List.Mem.tail _ (List.Mem.tail _ (by first | with_reducible assumption | assumption)))) (by with_reducible assumption) (by with_reducible assumption) (by with_reducible assumption) ?_); intro _ _ _ _ _ _ _ _ _ _ _)) | ((with_reducible show wpAny _ _ (PySem.call (Value.builtin "dict.items") _ _) _ _ _); (k_here; k_dflt (refine kdx_view (by with_reducible assumption) (by with_reducible assumption) (by k_mem) (by with_reducible assumption) (by with_reducible assumption) ?_); intro _ _ _ _ _)) | ((k_here; (with_reducible show wpAny _ _ (getMethod (Value.ref _) (PySem.Str.ofString "items") _) _ _ _); k_dflt (refine kdl_method (knd := PySem.strKind _ _) PySem.F.slot_dict_items PySem.F.type_dict_items (by with_reducible assumption) (by k_mem) (by with_reducible assumption) ?_))) | walk1) | (leave1; (try dsimp only)))
        rename Fr _ _ _ _ => F6
        rename News _ _ _ _ => N6
        rename DatAll _ _ _ => hdat
        rename ∀ q : Addr × Obj, q ∈ _ → _ < q.1 => lt
        rename ∀ q : Addr × Obj, q ∈ _ → q.1 < _ => lB
        rename Addr => BK
        refine hQQ _ _ ?_
        refine Hold.mk ⟨rfl, fun PP kk => kk _ _ _ _ _ _ ((_, _) :: (_ ++ nn)) rfl F6 (News.sub N6 (sub_cons (List.mem_append_right _ (.tail _ (.tail _ (.head _)))) (sub_cons (List.mem_append_right _ (.tail _ (.tail _ (.tail _ (.head _))))) (sub_cons (List.mem_append_right _ (.tail _ (.tail _ (.tail _ (.tail _ (.head _)))))) (sub_cons (List.mem_append_right _ (.tail _ (.tail _ (.tail _ (.tail _ (.tail _ (.head _))))))) (sub_cons (List.mem_append_right _ (.tail _ (.tail _ (.tail _ (.tail _ (.tail _ (.tail _ (.head _)))))))) (sub_cons (List.mem_append_right _ (.tail _ (.tail _ (.tail _ (.tail _ (.tail _ (.tail _ (.tail _ (.head _))))))))) (sub_cons (List.mem_append_right _ (.tail _ (.tail _ (.tail _ (.tail _ (.tail _ (.tail _ (.tail _ (.tail _ (.head _)))))))))) (sub_cons (List.mem_append_right _ (.head _)) fun p hp => (List.mem_append.mp hp).elim (fun h => List.mem_append_left _ h) fun h => List.mem_append_right _ (.tail _ (.tail _ (.tail _ (.tail _ (.tail _ (.tail _ (.tail _ (.tail _ (.tail _ (h))))))))))))))))))) (.head _) (hdat.mono fun _ hp => .tail _ (List.mem_append_left _ hp)) (fun _ hp => .tail _ (List.mem_append_right _ hp)) ?_ (gi.mono (fun _ hp => .tail _ (List.mem_append_right _ hp)) ?_) ⟨n1, n2, n3, n4, n5, n6, n7, n8, n9, n10⟩ n11 rfl⟩
        · intro p hp
          rcases List.mem_cons.mp hp with rfl | hp
          · exact Nat.ne_of_gt (lB _ (.tail _ (.head _)))
          · rcases List.mem_append.mp hp with hp | hp
            · exact Nat.ne_of_gt (Nat.lt_trans (lB _ (.tail _ (.head _))) (lt p hp))
            · exact nI p hp
        · intro p hp
          rcases List.mem_cons.mp hp with rfl | hp
          · exact .inr ⟨Nat.ne_of_gt (lB _ (.tail _ (.tail _ (.head _)))), Nat.ne_of_gt (lB _ (.tail _ (.tail _ (.tail _ (.head _))))), Nat.ne_of_gt (lB _ (.tail _ (.tail _ (.tail _ (.tail _ (.head _)))))), Nat.ne_of_gt (lB _ (.tail _ (.tail _ (.tail _ (.tail _ (.tail _ (.head _))))))), Nat.ne_of_gt (lB _ (.tail _ (.tail _ (.tail _ (.tail _ (.tail _ (.tail _ (.head _)))))))), Nat.ne_of_gt (lB _ (.tail _ (.tail _ (.tail _ (.tail _ (.tail _ (.tail _ (.tail _ (.head _)))))))))⟩
          · rcases List.mem_append.mp hp with hp | hp
            · exact .inr ⟨Nat.ne_of_gt (Nat.lt_trans (lB _ (.tail _ (.tail _ (.head _)))) (lt p hp)), Nat.ne_of_gt (Nat.lt_trans (lB _ (.tail _ (.tail _ (.tail _ (.head _))))) (lt p hp)), Nat.ne_of_gt (Nat.lt_trans (lB _ (.tail _ (.tail _ (.tail _ (.tail _ (.head _)))))) (lt p hp)), Nat.ne_of_gt (Nat.lt_trans (lB _ (.tail _ (.tail _ (.tail _ (.tail _ (.tail _ (.head _))))))) (lt p hp)), Nat.ne_of_gt (Nat.lt_trans (lB _ (.tail _ (.tail _ (.tail _ (.tail _ (.tail _ (.tail _ (.head _)))))))) (lt p hp)), Nat.ne_of_gt (Nat.lt_trans (lB _ (.tail _ (.tail _ (.tail _ (.tail _ (.tail _ (.tail _ (.tail _ (.head _))))))))) (lt p hp))⟩
            · exact .inl hp
        --]C5
      clear F1 N1 n1 n2 n3 n4 n5 n6 n7 n8 n9 n10 n11 f1 f2 f3 f4 f5 f6 hvp hvh dDp dB
      intro s' hPP
      refine hPP _ ?_
      clear hPP
      rintro h' tk m' KE vsK eK2 nn1 rfl F1 N1 mKE datK s1 nI1 gi1 ⟨n1, n2, n3, n4, n5, n6, n7, n8, n9, n10⟩ n11 n12
      obtain ⟨kR, dR, tabR⟩ := gi1.dR
      obtain ⟨vr, hvr, tr, rfl⟩ := tabR.2 kb hkb5
      refine exec_join (fun s' => ∀ PP : Prop, (∀ h' tk m' DE DD oDD kDD t1 t2 t3 t4 nn', (s' = { s with heap := h', toks := tk, drawn := dr }) → (Fr g' L' h' m') → (News g' L' h' ((I, oI) :: (PA, lstO vsP eP) :: (BD, oB) :: (RD, oR) :: (L' + 1 + 1 + 1, ol) :: (L' + 1 + 1, oh) :: (L' + 1, op) :: nn')) → (∀ p ∈ nn1, p ∈ nn') → (∀ p ∈ nn', p.1 ≠ I) → ((DE, tupO [.int 0 t1, .int 0 t2, .int 0 t3, .int (durL d (S.row (S.par kb)) * durL wt (S.row kb)) t4, .ref DD]) ∈ nn') → ((DD, oDD) ∈ nn') → ((DD == sysModules) = false) → (oDD.IsDictOf (KD w) kDD) → (CV kDD ((S.row kb).map fun k => (letter k, durL d (S.row (S.par kb))))) → (GI w d wt b news PA BD RD H D OX OD KL (L' + 1 + 1 + 1) (L' + 1 + 1) (L' + 1) tH t hh i S oB oR vsP DU nn') → (Nm m' OX H DU RD BD PA KL gr lo tg tl tL) → (m' (Str.ofString "old") = some (.ref Th)) → (m' (Str.ofString "kept") = some (.ref KE)) → (m' (Str.ofString "delay") = some (.ref DE)) → PP) → PP) ?_ ?_
      · refine opq ?_
        intro QQ EE hQQ
        --[C6
        have mBD' : (BD, oB) ∈ (I, oI) :: (PA, lstO vsP eP) :: (BD, oB) :: (RD, oR) :: (L' + 1 + 1 + 1, ol) :: (L' + 1 + 1, oh) :: (L' + 1, op) :: nn1 := .tail _ (.tail _ (.head _))
        have mRD' : (RD, oR) ∈ (I, oI) :: (PA, lstO vsP eP) :: (BD, oB) :: (RD, oR) :: (L' + 1 + 1 + 1, ol) :: (L' + 1 + 1, oh) :: (L' + 1, op) :: nn1 := .tail _ (.tail _ (.tail _ (.head _)))
        have mol : (L' + 1 + 1 + 1, ol) ∈ (I, oI) :: (PA, lstO vsP eP) :: (BD, oB) :: (RD, oR) :: (L' + 1 + 1 + 1, ol) :: (L' + 1 + 1, oh) :: (L' + 1, op) :: nn1 := .tail _ (.tail _ (.tail _ (.tail _ (.head _))))
        have mop : (L' + 1, op) ∈ (I, oI) :: (PA, lstO vsP eP) :: (BD, oB) :: (RD, oR) :: (L' + 1 + 1 + 1, ol) :: (L' + 1 + 1, oh) :: (L' + 1, op) :: nn1 := .tail _ (.tail _ (.tail _ (.tail _ (.tail _ (.tail _ (.head _))))))
        obtain ⟨kB, dB, tabB⟩ := gi1.dB
        obtain ⟨vT1, hvp1, T1, D1, oD1, kD1, tq1, tq2, tq3, tq4, rfl, mT1, _⟩ := tabB.2 kb hkb5
        have mT1' : (T1, tupO [.int ((S.row kb).length : Int) tq1, .int (durL d (S.row kb)) tq2, .int (durL wt (S.row kb)) tq3, .int (costF d wt 0 (S.row kb)) tq4, .ref D1]) ∈ (I, oI) :: (PA, lstO vsP eP) :: (BD, oB) :: (RD, oR) :: (L' + 1 + 1 + 1, ol) :: (L' + 1 + 1, oh) :: (L' + 1, op) :: nn1 := .tail _ (.tail _ (.tail _ (.tail _ (.tail _ (.tail _ (.tail _ (mT1)))))))
        have dbh := gi.R.dur bd hal
        have dbh2 := dbh.2
        have wbp2 := wbp.2
        repeat' (first | ((with_reducible show SrcCell _ _ _ _ _ _ _ _ _ _ ); refine Hold.out ?_) | ((with_reducible show wpAny _ _ (eval (Expr.DictComp _ _ _ _ _) _) _ _ _); (k_here; k_dflt (refine DictComp_cell (by k_asm) (by rfl) (by with_unfolding_all rfl) (by decide) (by rfl) (by decide) (by rfl) (by intro _; rfl) (by rfl) (by decide) (by decide) ?_))) | ((with_reducible show wpAny _ _ (PySem.call (Value.ref _) _ _) _ _ _); (k_here; (with_reducible show wpAny _ _ (call (Value.ref 130) _ _) _ _ _); k_dflt (refine imul_c (by k_asm) (by with_reducible assumption) (by k_asm) (by with_reducible assumption) (by k_asm) rfl (by first | exact rmN (k := 6) hd rfl | exact rmN (k := 11) hd rfl | exact rmN (k := 16) hd rfl | exact rmN (k := 21) hd rfl | exact rmN (k := 26) hd rfl | ((try dsimp only [ktrTop]); omega)) (by first | exact rmN (k := 43) hu rfl | exact rmN (k := 83) hu rfl | exact rmN (k := 123) hu rfl | exact rmN (k := 163) hu rfl | ((try dsimp only [ktrTop]); omega)) (by omega) (by omega) (by omega) (by omega) ?_); intro _ _ _ _ _)) | ((with_reducible show wpAny _ _ (subscriptTail _ _ _ _) _ _ _); (k_here; (with_reducible show wpAny _ _ (subscriptTail _ _ (Value.ref _) (Value.str _ _)) _ _ _); k_dflt (refine kda_item (knd := PySem.strKind _ _) (by with_reducible assumption) (by k_mem) (by with_reducible assumption) (strKind_is _ _ _ _) (by with_reducible assumption) ?_))) | (k_unfold; (try dsimp only)) | (k_end; kc_close) | walk1 | (dsimp only; first | ((with_reducible show SrcCell _ _ _ _ _ _ _ _ _ _ ); refine Hold.out ?_) | ((with_reducible show wpAny _ _ (eval (Expr.DictComp _ _ _ _ _) _) _ _ _); (k_here; k_dflt (refine DictComp_cell (by k_asm) (by rfl) (by with_unfolding_all rfl) (by decide) (by rfl) (by decide) (by rfl) (by intro _; rfl) (by rfl) (by decide) (by decide) ?_))) | ((with_reducible show wpAny _ _ (PySem.call (Value.ref _) _ _) _ _ _); (k_here; (with_reducible show wpAny _ _ (call (Value.ref 130) _ _) _ _ _); k_dflt (refine imul_c (by k_asm) (by with_reducible assumption) (by k_asm) (by with_reducible assumption) (by k_asm) rfl (by first | exact rmN (k := 6) hd rfl | exact rmN (k := 11) hd rfl | exact rmN (k := 16) hd rfl | exact rmN (k := 21) hd rfl | exact rmN (k := 26) hd rfl | ((try dsimp only [ktrTop]); omega)) (by first | exact rmN (k := 43) hu rfl | exact rmN (k := 83) hu rfl | exact rmN (k := 123) hu rfl | exact rmN (k := 163) hu rfl | ((try dsimp only [ktrTop]); omega)) (by omega) (by omega) (by omega) (by omega) ?_); intro _ _ _ _ _)) | ((with_reducible show wpAny _ _ (subscriptTail _ _ _ _) _ _ _); (k_here; (with_reducible show wpAny _ _ (subscriptTail _ _ (Value.ref _) (Value.str _ _)) _ _ _); k_dflt (refine kda_item (knd := PySem.strKind _ _) (by with_reducible assumption) (by k_mem) (by with_reducible assumption) (strKind_is _ _ _ _) (by with_reducible assumption) ?_))) | walk1) | (leave1; (try dsimp only)))
        rename Fr _ _ _ _ => F6
        rename News _ _ _ _ => N6
        refine Hold.mk ⟨S.row kb, tr, _, ol, durL d (S.row (S.par kb)), th2, rfl, rfl, F6, N6, mol, hol, gi.R.nd kb (.inr hkb), Nat.le_trans (gi.R.len (.inr hkb)).2 (by decide), Top.nolimit T', fun DD oDD kDD h2 tk2 F7 N7 l7 lo7 d7 cv7 => ?_⟩
        clear F6 N6
        repeat' (first | ((with_reducible show wpAny _ _ (newTuple _) _ _ _); (k_here; k_dflt (refine kup_newTuple (by k_asm) (by k_asm) ?_ (by kmk_size)); intro _ _ _ _ _)) | (k_unfold; (try dsimp only)) | (k_end; kc_close) | walk1 | (dsimp only; first | ((with_reducible show wpAny _ _ (newTuple _) _ _ _); (k_here; k_dflt (refine kup_newTuple (by k_asm) (by k_asm) ?_ (by kmk_size)); intro _ _ _ _ _)) | walk1) | (leave1; (try dsimp only)))
        rename Fr _ _ _ _ => F8
        rename News _ _ _ _ => N8
        rename ∀ p : Addr × Obj, p ∈ _ → p.1 < _ => lz
        refine hQQ _ _ ?_
        refine Hold.mk ⟨rfl, fun PP kk => kk _ _ _ _ DD oDD kDD _ _ _ _ ((_, _) :: (DD, oDD) :: nn1) rfl F8 (News.sub N8 (sub_cons (.tail _ (.tail _ (.head _))) (sub_cons (.tail _ (.tail _ (.tail _ (.head _)))) (sub_cons (.tail _ (.tail _ (.tail _ (.tail _ (.head _))))) (sub_cons (.tail _ (.tail _ (.tail _ (.tail _ (.tail _ (.head _)))))) (sub_cons (.tail _ (.tail _ (.tail _ (.tail _ (.tail _ (.tail _ (.head _))))))) (sub_cons (.tail _ (.tail _ (.tail _ (.tail _ (.tail _ (.tail _ (.tail _ (.head _)))))))) (sub_cons (.tail _ (.tail _ (.tail _ (.tail _ (.tail _ (.tail _ (.tail _ (.tail _ (.head _))))))))) (sub_cons (.head _) (sub_cons (.tail _ (.head _)) fun p hp => .tail _ (.tail _ (.tail _ (.tail _ (.tail _ (.tail _ (.tail _ (.tail _ (.tail _ (hp))))))))))))))))))) (fun _ hp => .tail _ (.tail _ hp)) (neA (Nat.ne_of_gt (lz _ (.tail _ (.head _)))) (neA (Nat.ne_of_gt (l7 _ (.head _))) nI1)) (.head _) (.tail _ (.head _)) lo7 d7 cv7 (gi1.mono (fun _ hp => .tail _ (.tail _ hp)) ?_) ⟨n1, n2, n3, n4, n5, n6, n7, n8, n9, n10⟩ n11 n12 rfl⟩
        intro p hp
        rcases List.mem_cons.mp hp with rfl | hp
        · exact .inr ⟨Nat.ne_of_gt (lz _ (.tail _ (.tail _ (.head _)))), Nat.ne_of_gt (lz _ (.tail _ (.tail _ (.tail _ (.head _))))), Nat.ne_of_gt (lz _ (.tail _ (.tail _ (.tail _ (.tail _ (.head _)))))), Nat.ne_of_gt (lz _ (.tail _ (.tail _ (.tail _ (.tail _ (.tail _ (.head _))))))), Nat.ne_of_gt (lz _ (.tail _ (.tail _ (.tail _ (.tail _ (.tail _ (.tail _ (.head _)))))))), Nat.ne_of_gt (lz _ (.tail _ (.tail _ (.tail _ (.tail _ (.tail _ (.tail _ (.tail _ (.head _)))))))))⟩
        · rcases List.mem_cons.mp hp with rfl | hp
          · exact .inr ⟨Nat.ne_of_gt (l7 _ (.tail _ (.head _))), Nat.ne_of_gt (l7 _ (.tail _ (.tail _ (.head _)))), Nat.ne_of_gt (l7 _ (.tail _ (.tail _ (.tail _ (.head _))))), Nat.ne_of_gt (l7 _ (.tail _ (.tail _ (.tail _ (.tail _ (.head _)))))), Nat.ne_of_gt (l7 _ (.tail _ (.tail _ (.tail _ (.tail _ (.tail _ (.head _))))))), Nat.ne_of_gt (l7 _ (.tail _ (.tail _ (.tail _ (.tail _ (.tail _ (.tail _ (.head _))))))))⟩
          · exact .inl hp
        --]C6
      clear F1 N1 n1 n2 n3 n4 n5 n6 n7 n8 n9 n10 n11 n12 dR
      intro s' hPP
      refine hPP _ ?_
      clear hPP
      rintro h' tk m' DE DD oDD kDD td1 td2 td3 td4 nn2 rfl F1 N1 s2 nI2 mDE mDD loDD dDD cvDD gi2 ⟨n1, n2, n3, n4, n5, n6, n7, n8, n9, n10⟩ n11 n12 n13
      obtain ⟨kB, dB, tabB⟩ := gi2.dB
      obtain ⟨vT2, hvp2, T2, D2, oD2, kD2, tr1, tr2, tr3, tr4, rfl, mT2, mD2, loD2, dD2, cvD2⟩ := tabB.2 kb hkb5
      have hlenp := gi.R.len (.inr hkb)
      have hndx : (S.row (S.par kb) ++ S.row kb).Nodup := List.nodup_append.mpr ⟨gi.R.nd _ hal, gi.R.nd _ (.inr hkb), fun x hx y hy e => gi.R.dj _ _ hal (.inr hkb) (by have := (gi.G.pl kb hkb).1; lia  ) x hx (e ▸ hy)⟩
      have l1 : kDh.length = (S.row (S.par kb)).length := by rw [cvDh.length, untilF_len]
      have l2 : kD2.length = (S.row kb).length := by rw [cvD2.length, untilF_len]
      have l3 : kDD.length = (S.row kb).length := by rw [cvDD.length, List.length_map]
      refine exec_join (fun s' => ∀ PP : Prop, (∀ h' tk m' oB2 kB2 nn', (s' = { s with heap := h', toks := tk, drawn := dr }) → (Fr g' L' h' m') → (News g' L' h' ((I, oI) :: (PA, lstO vsP eP) :: (BD, oB2) :: (RD, oR) :: (L' + 1 + 1 + 1, ol) :: (L' + 1 + 1, oh) :: (L' + 1, op) :: nn')) → (∀ p ∈ nn2, p ∈ nn') → (∀ p ∈ nn', p.1 ≠ I) → (oB2.IsDictOf (KD w) kB2) → (TabK kB2 5 (fun k v => BlkAt w nn' d wt ((S.glue kb).row k) v)) → (GI w d wt b news PA BD RD H D OX OD KL (L' + 1 + 1 + 1) (L' + 1 + 1) (L' + 1) tH t hh i S oB oR vsP DU nn') → (Nm m' OX H DU RD BD PA KL gr lo tg tl tL) → (m' (Str.ofString "old") = some (.ref Th)) → (m' (Str.ofString "kept") = some (.ref KE)) → PP) → PP) ?_ ?_
      · refine opq ?_
        intro QQ EE hQQ
        --[C7
        have mT2' : (T2, tupO [.int ((S.row kb).length : Int) tr1, .int (durL d (S.row kb)) tr2, .int (durL wt (S.row kb)) tr3, .int (costF d wt 0 (S.row kb)) tr4, .ref D2]) ∈ (I, oI) :: (PA, lstO vsP eP) :: (BD, oB) :: (RD, oR) :: (L' + 1 + 1 + 1, ol) :: (L' + 1 + 1, oh) :: (L' + 1, op) :: nn2 := .tail _ (.tail _ (.tail _ (.tail _ (.tail _ (.tail _ (.tail _ (mT2)))))))
        have mBD' : (BD, oB) ∈ (I, oI) :: (PA, lstO vsP eP) :: (BD, oB) :: (RD, oR) :: (L' + 1 + 1 + 1, ol) :: (L' + 1 + 1, oh) :: (L' + 1, op) :: nn2 := .tail _ (.tail _ (.head _))
        have moh : (L' + 1 + 1, oh) ∈ (I, oI) :: (PA, lstO vsP eP) :: (BD, oB) :: (RD, oR) :: (L' + 1 + 1 + 1, ol) :: (L' + 1 + 1, oh) :: (L' + 1, op) :: nn2 := .tail _ (.tail _ (.tail _ (.tail _ (.tail _ (.head _)))))
        have mop : (L' + 1, op) ∈ (I, oI) :: (PA, lstO vsP eP) :: (BD, oB) :: (RD, oR) :: (L' + 1 + 1 + 1, ol) :: (L' + 1 + 1, oh) :: (L' + 1, op) :: nn2 := .tail _ (.tail _ (.tail _ (.tail _ (.tail _ (.tail _ (.head _))))))
        repeat' (first | ((with_reducible show wpAny _ _ (PySem.call (Value.ref _) _ _) _ _ _); (k_here; (with_reducible show wpAny _ _ (call (Value.ref 73) _ _) _ _ _); refine Hold.out ?_)) | ((with_reducible show wpAny _ _ (subscriptTail _ _ _ _) _ _ _); (k_here; (with_reducible show wpAny _ _ (subscriptTail _ _ (Value.ref _) (Value.str _ _)) _ _ _); k_dflt (refine kda_item (knd := PySem.strKind _ _) (by with_reducible assumption) (by k_mem) (by with_reducible assumption) (strKind_is _ _ _ _) (by with_reducible assumption) ?_))) | (k_unfold; (try dsimp only)) | (k_end; kc_close) | walk1 | (dsimp only; first | ((with_reducible show wpAny _ _ (PySem.call (Value.ref _) _ _) _ _ _); (k_here; (with_reducible show wpAny _ _ (call (Value.ref 73) _ _) _ _ _); refine Hold.out ?_)) | ((with_reducible show wpAny _ _ (subscriptTail _ _ _ _) _ _ _); (k_here; (with_reducible show wpAny _ _ (subscriptTail _ _ (Value.ref _) (Value.str _ _)) _ _ _); k_dflt (refine kda_item (knd := PySem.strKind _ _) (by with_reducible assumption) (by k_mem) (by with_reducible assumption) (strKind_is _ _ _ _) (by with_reducible assumption) ?_))) | walk1) | (leave1; (try dsimp only)))
        rename Fr _ _ _ _ => F6
        rename News _ _ _ _ => N6
        refine Hold.mk (add_func_stats_c B' F6 X' N6 T' rfl (by (try dsimp only [ktrTop]); lia  ) (by (try dsimp only [ktrTop]); lia  ) loDh loD2 (.tail _ (.tail _ (.tail _ (.tail _ (.tail _ (.tail _ (.tail _ (s2 _ (s1 _ mDh))))))))) (.tail _ (.tail _ (.tail _ (.tail _ (.tail _ (.tail _ (.tail _ (mD2)))))))) (.tail _ (.tail _ (.tail _ (.tail _ (.tail _ (.tail _ (.tail _ (s2 _ (s1 _ mTh))))))))) mT2' dDh dD2 cvDh cvD2 (by lia  ) ?_)
        intro r1 D1 o1' kR1 w1 w2 w3 w4 h1' tk1' FA NA lD1 lr1 loD1 dD1 cvD1
        clear F6 N6
        have l4 : kR1.length ≤ 500 := by rw [cvD1.length]; exact addS_len hlenh.2 hlenp.2
        repeat' (first | ((with_reducible show wpAny _ _ (PySem.call (Value.ref _) _ _) _ _ _); (k_here; (with_reducible show wpAny _ _ (call (Value.ref 73) _ _) _ _ _); refine Hold.out ?_)) | (k_unfold; (try dsimp only)) | (k_end; kc_close) | walk1 | (dsimp only; first | ((with_reducible show wpAny _ _ (PySem.call (Value.ref _) _ _) _ _ _); (k_here; (with_reducible show wpAny _ _ (call (Value.ref 73) _ _) _ _ _); refine Hold.out ?_)) | walk1) | (leave1; (try dsimp only)))
        rename Fr _ _ _ _ => F6
        rename News _ _ _ _ => N6
        refine Hold.mk (add_func_stats_c B' F6 X' N6 T' rfl (by (try dsimp only [ktrTop]); lia  ) (by (try dsimp only [ktrTop]); lia  ) loD1 loDD (.tail _ (.head _)) (.tail _ (.tail _ (.tail _ (.tail _ (.tail _ (.tail _ (.tail _ (.tail _ (.tail _ (mDD)))))))))) (.head _) (.tail _ (.tail _ (.tail _ (.tail _ (.tail _ (.tail _ (.tail _ (.tail _ (.tail _ (mDE)))))))))) dD1 dDD cvD1 cvDD (by lia  ) ?_)
        intro r2 D3 o3' kR2 y1 y2 y3 y4 h2' tk2' FB NB lD3 lr2 loD3 dD3 cvD3
        clear F6 N6
        have q1 : D1 ≠ BD := Nat.ne_of_gt (lD1 _ mBD')
        have q2 : r1 ≠ BD := Nat.ne_of_gt (Nat.lt_trans (lD1 _ mBD') lr1)
        have q3 : D3 ≠ BD := Nat.ne_of_gt (lD3 _ (.tail _ (.tail _ mBD')))
        have q4 : r2 ≠ BD := Nat.ne_of_gt (Nat.lt_trans (lD3 _ (.tail _ (.tail _ mBD'))) lr2)
        have fBD := gi2.f2
        have hkB : kB.length ≤ sizeLine := by rw [tabB.len, sizeLine_eq]; lia  
        repeat' (first | ((with_reducible show wpAny _ _ (setItem (Value.ref _) (Value.str _ _) _) _ _ _); (k_here; k_dflt (refine kda_set (knd := PySem.strKind _ _) (by with_reducible assumption) (by with_reducible assumption) (by k_updF) (by with_reducible assumption) (strKind_is _ _ _ _) (by first | with_reducible assumption | assumption) ?_); intro _ _ _ Nq' _; (try dsimp only at Nq'))) | (k_unfold; (try dsimp only)) | (k_end; kc_close) | walk1 | (dsimp only; first | ((with_reducible show wpAny _ _ (setItem (Value.ref _) (Value.str _ _) _) _ _ _); (k_here; k_dflt (refine kda_set (knd := PySem.strKind _ _) (by with_reducible assumption) (by with_reducible assumption) (by k_updF) (by with_reducible assumption) (strKind_is _ _ _ _) (by first | with_reducible assumption | assumption) ?_); intro _ _ _ Nq' _; (try dsimp only at Nq'))) | walk1) | (leave1; (try dsimp only)))
        rename Fr _ _ _ _ => F8
        rename News _ _ _ _ => N8
        refine hQQ _ _ ?_
        refine Hold.mk ⟨rfl, fun PP kk => kk _ _ _ _ _ ((r2, _) :: (D3, o3') :: nn2) rfl F8 (News.sub N8 (sub_cons (.tail _ (.tail _ (.tail _ (.tail _ (.head _))))) (sub_cons (.tail _ (.tail _ (.tail _ (.tail _ (.tail _ (.head _)))))) (sub_cons (.tail _ (.tail _ (.tail _ (.tail _ (.tail _ (.tail _ (.head _))))))) (sub_cons (.tail _ (.tail _ (.tail _ (.tail _ (.tail _ (.tail _ (.tail _ (.head _)))))))) (sub_cons (.tail _ (.tail _ (.tail _ (.tail _ (.tail _ (.tail _ (.tail _ (.tail _ (.head _))))))))) (sub_cons (.tail _ (.tail _ (.tail _ (.tail _ (.tail _ (.tail _ (.tail _ (.tail _ (.tail _ (.head _)))))))))) (sub_cons (.tail _ (.tail _ (.tail _ (.tail _ (.tail _ (.tail _ (.tail _ (.tail _ (.tail _ (.tail _ (.head _))))))))))) (sub_cons (.head _) (sub_cons (.tail _ (.head _)) fun p hp => .tail _ (.tail _ (.tail _ (.tail _ (.tail _ (.tail _ (.tail _ (.tail _ (.tail _ (.tail _ (.tail _ (hp))))))))))))))))))))) (fun _ hp => .tail _ (.tail _ hp)) (neA (Nat.ne_of_gt (Nat.lt_trans (lD3 _ (.tail _ (.tail _ (.head _)))) lr2)) (neA (Nat.ne_of_gt (lD3 _ (.tail _ (.tail _ (.head _))))) nI2)) (by assumption) (tabB.put hh5 (fun j _ hne v h => ?_) ?_) (gi2.mono (fun _ hp => .tail _ (.tail _ hp)) ?_) ⟨n1, n2, n3, n4, n5, n6, n7, n8, n9, n10⟩ n11 n12⟩
        · rw [show (S.glue kb).row j = S.row j from if_neg hne]
          exact h.mono fun _ hp => .tail _ (.tail _ hp)
        · rw [show (S.glue kb).row (S.par kb) = S.row (S.par kb) ++ S.row kb from if_pos rfl]
          exact blk_glue hndx (.head _) (.tail _ (.head _)) loD3 dD3 cvD3
        · intro p hp
          rcases List.mem_cons.mp hp with rfl | hp
          · exact .inr ⟨Nat.ne_of_gt (Nat.lt_trans (lD3 _ (.tail _ (.tail _ (.tail _ (.head _))))) lr2), Nat.ne_of_gt (Nat.lt_trans (lD3 _ (.tail _ (.tail _ (.tail _ (.tail _ (.head _)))))) lr2), Nat.ne_of_gt (Nat.lt_trans (lD3 _ (.tail _ (.tail _ (.tail _ (.tail _ (.tail _ (.head _))))))) lr2), Nat.ne_of_gt (Nat.lt_trans (lD3 _ (.tail _ (.tail _ (.tail _ (.tail _ (.tail _ (.tail _ (.head _)))))))) lr2), Nat.ne_of_gt (Nat.lt_trans (lD3 _ (.tail _ (.tail _ (.tail _ (.tail _ (.tail _ (.tail _ (.tail _ (.head _))))))))) lr2), Nat.ne_of_gt (Nat.lt_trans (lD3 _ (.tail _ (.tail _ (.tail _ (.tail _ (.tail _ (.tail _ (.tail _ (.tail _ (.head _)))))))))) lr2)⟩
          · rcases List.mem_cons.mp hp with rfl | hp
            · exact .inr ⟨Nat.ne_of_gt (lD3 _ (.tail _ (.tail _ (.tail _ (.head _))))), Nat.ne_of_gt (lD3 _ (.tail _ (.tail _ (.tail _ (.tail _ (.head _)))))), Nat.ne_of_gt (lD3 _ (.tail _ (.tail _ (.tail _ (.tail _ (.tail _ (.head _))))))), Nat.ne_of_gt (lD3 _ (.tail _ (.tail _ (.tail _ (.tail _ (.tail _ (.tail _ (.head _)))))))), Nat.ne_of_gt (lD3 _ (.tail _ (.tail _ (.tail _ (.tail _ (.tail _ (.tail _ (.tail _ (.head _))))))))), Nat.ne_of_gt (lD3 _ (.tail _ (.tail _ (.tail _ (.tail _ (.tail _ (.tail _ (.tail _ (.tail _ (.head _))))))))))⟩
            · exact .inl hp
        --]C7
      clear F1 N1 n1 n2 n3 n4 n5 n6 n7 n8 n9 n10 n11 n12 n13 dB dD2 dDD
      intro s' hPP
      refine hPP _ ?_
      clear hPP
      rintro h' tk m' oB2 kB2 nn3 rfl F1 N1 s3 nI3 dB2 tabB2 gi3 ⟨n1, n2, n3, n4, n5, n6, n7, n8, n9, n10⟩ n11 n12
      obtain ⟨kR, dR, tabR⟩ := gi3.dR
      obtain ⟨vr, hvr, tr, rfl⟩ := tabR.2 kb hkb5
      obtain ⟨vrh, hvrh, trh, rfl⟩ := tabR.2 (S.par kb) hh5
      refine exec_join (fun s' => ∀ PP : Prop, (∀ h' tk m' oR2 kR2, (s' = { s with heap := h', toks := tk, drawn := dr }) → (Fr g' L' h' m') → (News g' L' h' ((I, oI) :: (PA, lstO vsP eP) :: (BD, oB2) :: (RD, oR2) :: (L' + 1 + 1 + 1, ol) :: (L' + 1 + 1, oh) :: (L' + 1, op) :: nn3)) → (oR2.IsDictOf (KD w) kR2) → (TabK kR2 5 (fun k v => ∃ t, v = .str (rowStr ((S.glue kb).row k)) t)) → (Nm m' OX H DU RD BD PA KL gr lo tg tl tL) → (m' (Str.ofString "old") = some (.ref Th)) → (m' (Str.ofString "kept") = some (.ref KE)) → PP) → PP) ?_ ?_
      · refine opq ?_
        intro QQ EE hQQ
        --[C8
        have mRD' : (RD, oR) ∈ (I, oI) :: (PA, lstO vsP eP) :: (BD, oB2) :: (RD, oR) :: (L' + 1 + 1 + 1, ol) :: (L' + 1 + 1, oh) :: (L' + 1, op) :: nn3 := .tail _ (.tail _ (.tail _ (.head _)))
        have moh : (L' + 1 + 1, oh) ∈ (I, oI) :: (PA, lstO vsP eP) :: (BD, oB2) :: (RD, oR) :: (L' + 1 + 1 + 1, ol) :: (L' + 1 + 1, oh) :: (L' + 1, op) :: nn3 := .tail _ (.tail _ (.tail _ (.tail _ (.tail _ (.head _)))))
        have mop : (L' + 1, op) ∈ (I, oI) :: (PA, lstO vsP eP) :: (BD, oB2) :: (RD, oR) :: (L' + 1 + 1 + 1, ol) :: (L' + 1 + 1, oh) :: (L' + 1, op) :: nn3 := .tail _ (.tail _ (.tail _ (.tail _ (.tail _ (.tail _ (.head _))))))
        have rl1 : (rowStr (S.row (S.par kb))).length < 1000 := by rw [rowStr_len]; lia  
        have rl2 : (rowStr (S.row kb)).length < 1000 := by rw [rowStr_len]; lia  
        have fRD := gi3.f3
        have hkR : kR.length ≤ sizeLine := by rw [tabR.len, sizeLine_eq]; lia  
        repeat' (first | ((with_reducible show wpAny _ _ (setItem (Value.ref _) (Value.str _ _) _) _ _ _); (k_here; k_dflt (refine kda_set (knd := PySem.strKind _ _) (by with_reducible assumption) (by with_reducible assumption) (by k_updF) (by with_reducible assumption) (strKind_is _ _ _ _) (by first | with_reducible assumption | assumption) ?_); intro _ _ _ Nq' _; (try dsimp only at Nq'))) | ((with_reducible show wpAny _ _ (PySem.call (Value.ref _) _ _) _ _ _); (k_here; (with_reducible show wpAny _ _ (call (Value.ref 123) _ _) _ _ _); k_dflt (refine concat_c (by k_asm) (by with_reducible assumption) (by k_asm) (by with_reducible assumption) (by k_asm) rfl (by first | exact rmN (k := 6) hd rfl | exact rmN (k := 11) hd rfl | exact rmN (k := 16) hd rfl | exact rmN (k := 21) hd rfl | exact rmN (k := 26) hd rfl | ((try dsimp only [ktrTop]); omega)) (by first | exact rmN (k := 43) hu rfl | exact rmN (k := 83) hu rfl | exact rmN (k := 123) hu rfl | exact rmN (k := 163) hu rfl | ((try dsimp only [ktrTop]); omega)) (by with_reducible assumption) (by with_reducible assumption) ?_); intro _ _ _ _ _)) | ((with_reducible show wpAny _ _ (subscriptTail _ _ _ _) _ _ _); (k_here; (with_reducible show wpAny _ _ (subscriptTail _ _ (Value.ref _) (Value.str _ _)) _ _ _); k_dflt (refine kda_item (knd := PySem.strKind _ _) (by with_reducible assumption) (by k_mem) (by with_reducible assumption) (strKind_is _ _ _ _) (by with_reducible assumption) ?_))) | (k_unfold; (try dsimp only)) | (k_end; kc_close) | walk1 | (dsimp only; first | ((with_reducible show wpAny _ _ (setItem (Value.ref _) (Value.str _ _) _) _ _ _); (k_here; k_dflt (refine kda_set (knd := PySem.strKind _ _) (by with_reducible assumption) (by with_reducible assumption) (by k_updF) (by with_reducible assumption) (strKind_is _ _ _ _) (by first | with_reducible assumption | assumption) ?_); intro _ _ _ Nq' _; (try dsimp only at Nq'))) | ((with_reducible show wpAny _ _ (PySem.call (Value.ref _) _ _) _ _ _); (k_here; (with_reducible show wpAny _ _ (call (Value.ref 123) _ _) _ _ _); k_dflt (refine concat_c (by k_asm) (by with_reducible assumption) (by k_asm) (by with_reducible assumption) (by k_asm) rfl (by first | exact rmN (k := 6) hd rfl | exact rmN (k := 11) hd rfl | exact rmN (k := 16) hd rfl | exact rmN (k := 21) hd rfl | exact rmN (k := 26) hd rfl | ((try dsimp only [ktrTop]); omega)) (by first | exact rmN (k := 43) hu rfl | exact rmN (k := 83) hu rfl | exact rmN (k := 123) hu rfl | exact rmN (k := 163) hu rfl | ((try dsimp only [ktrTop]); omega)) (by with_reducible assumption) (by with_reducible assumption) ?_); intro _ _ _ _ _)) | ((with_reducible show wpAny _ _ (subscriptTail _ _ _ _) _ _ _); (k_here; (with_reducible show wpAny _ _ (subscriptTail _ _ (Value.ref _) (Value.str _ _)) _ _ _); k_dflt (refine kda_item (knd := PySem.strKind _ _) (by with_reducible assumption) (by k_mem) (by with_reducible assumption) (strKind_is _ _ _ _) (by with_reducible assumption) ?_))) | walk1) | (leave1; (try dsimp only)))
        rename Fr _ _ _ _ => F8
        rename News _ _ _ _ => N8
        refine hQQ _ _ ?_
        refine Hold.mk ⟨rfl, fun PP kk => kk _ _ _ _ _ rfl F8 N8 (by assumption) (tabR.put hh5 (fun j _ hne v h => ?_) ?_) ⟨n1, n2, n3, n4, n5, n6, n7, n8, n9, n10⟩ n11 n12⟩
        · rw [show (S.glue kb).row j = S.row j from if_neg hne]; exact h
        · rw [show (S.glue kb).row (S.par kb) = S.row (S.par kb) ++ S.row kb from if_pos rfl, ← rowStr_append]; exact ⟨_, rfl⟩
        --]C8
      clear F1 N1 n1 n2 n3 n4 n5 n6 n7 n8 n9 n10 n11 n12 dR
      intro s' hPP
      refine hPP _ ?_
      clear hPP
      rintro h' tk m' oR2 kR2 rfl F1 N1 dR2 tabR2 ⟨n1, n2, n3, n4, n5, n6, n7, n8, n9, n10⟩ n11 n12
      refine exec_join (fun s' => ∀ PP : Prop, (∀ h' tk m' vsQ eQ, (s' = { s with heap := h', toks := tk, drawn := dr }) → (Fr g' L' h' m') → (News g' L' h' ((I, oI) :: (PA, lstO vsQ eQ) :: (BD, oB2) :: (RD, oR2) :: (L' + 1 + 1 + 1, ol) :: (L' + 1 + 1, oh) :: (L' + 1, op) :: nn3)) → (PL nn3 vsQ ((pairsT S).filter fun q => !(Txt.lower q.1 == Txt.lower (Txt.upper (letter kb))))) → (Nm m' OX H DU RD BD PA KL gr lo tg tl tL) → (m' (Str.ofString "old") = some (.ref Th)) → (m' (Str.ofString "kept") = some (.ref KE)) → PP) → PP) ?_ ?_
      · refine opq ?_
        intro QQ EE hQQ
        --[C9
        have mH' : (H, instObj 276 D) ∈ (I, oI) :: (PA, lstO vsP eP) :: (BD, oB2) :: (RD, oR2) :: (L' + 1 + 1 + 1, ol) :: (L' + 1 + 1, oh) :: (L' + 1, op) :: nn3 := .tail _ (.tail _ (.tail _ (.tail _ (.tail _ (.tail _ (.tail _ (gi3.mH)))))))
        have mD' : (D, hdD w PA tH) ∈ (I, oI) :: (PA, lstO vsP eP) :: (BD, oB2) :: (RD, oR2) :: (L' + 1 + 1 + 1, ol) :: (L' + 1 + 1, oh) :: (L' + 1, op) :: nn3 := .tail _ (.tail _ (.tail _ (.tail _ (.tail _ (.tail _ (.tail _ (gi3.mD)))))))
        have mop : (L' + 1, op) ∈ (I, oI) :: (PA, lstO vsP eP) :: (BD, oB2) :: (RD, oR2) :: (L' + 1 + 1 + 1, ol) :: (L' + 1 + 1, oh) :: (L' + 1, op) :: nn3 := .tail _ (.tail _ (.tail _ (.tail _ (.tail _ (.tail _ (.head _))))))
        have on : OkS (Txt.upper (letter kb)) := by rw [upper_letter kb hkb5]; exact okS_upper hkb5
        have oln : OkS (Txt.lower (Txt.upper (letter kb))) := by rw [upper_letter kb hkb5, lower_upper kb hkb5]; exact okS_letter hkb5
        have hszP : vsP.length ≤ 1000 := by have e1 := gi3.plP.len; have e2 := gi3.len; unfold pairsT at e1; rw [List.length_map] at e1; lia  
        repeat' (first | ((with_reducible show wpAny _ _ (delItem (Value.ref _) (Value.str _ _)) _ _ _); (k_here; k_dflt (refine own_delItem (by k_asm) (by k_asm) (by k_inst) (by k_is) (by k_is) (by k_is) ?_))) | ((with_reducible show wpAny _ _ (PySem.call (Value.ref _) _ _) _ _ _); (k_here; (with_reducible show wpAny _ _ (call (Value.ref 194) _ _) _ _ _); refine Hold.out ?_)) | ((with_reducible show wpAny _ _ (PySem.call (Value.builtin "str.upper") _ _) _ _ _); (k_here; k_dflt (refine call_upper (by first | with_reducible assumption | exact Nat.le_of_ble_eq_true rfl) ?_))) | (k_unfold; (try dsimp only)) | (k_end; kc_close) | walk1 | (dsimp only; first | ((with_reducible show wpAny _ _ (delItem (Value.ref _) (Value.str _ _)) _ _ _); (k_here; k_dflt (refine own_delItem (by k_asm) (by k_asm) (by k_inst) (by k_is) (by k_is) (by k_is) ?_))) | ((with_reducible show wpAny _ _ (PySem.call (Value.ref _) _ _) _ _ _); (k_here; (with_reducible show wpAny _ _ (call (Value.ref 194) _ _) _ _ _); refine Hold.out ?_)) | ((with_reducible show wpAny _ _ (PySem.call (Value.builtin "str.upper") _ _) _ _ _); (k_here; k_dflt (refine call_upper (by first | with_reducible assumption | exact Nat.le_of_ble_eq_true rfl) ?_))) | walk1) | (leave1; (try dsimp only)))
        rename Fr _ _ _ _ => F6
        rename News _ _ _ _ => N6
        refine Hold.mk (delitem_c (news := (I, oI) :: (BD, oB2) :: (RD, oR2) :: (L' + 1 + 1 + 1, ol) :: (L' + 1 + 1, oh) :: (L' + 1, op) :: nn3) (H := H) (td := tH) B' F6 X' (News.up1 N6) T' rfl (by (try dsimp only [ktrTop]); lia  ) (by (try dsimp only [ktrTop]); lia  )
          (neA zIP (neA zPB.symm (neA zPR.symm (neA zP3.symm (neA zP2.symm (neA zP1.symm gi3.f1)))))) (.tail _ (.tail _ (.tail _ (.tail _ (.tail _ (.tail _ (gi3.mH))))))) (.tail _ (.tail _ (.tail _ (.tail _ (.tail _ (.tail _ (gi3.mD))))))) gi3.plP (fun _ hp => .tail _ (.tail _ (.tail _ (.tail _ (.tail _ (.tail _ (hp))))))) (okP_pairs lt5) hszP on oln ?_)
        intro vsQ eQ hQ kQ FQ NQ pQ
        clear F6 N6
        k_steps
        rename Fr _ _ _ _ => F8
        rename News _ _ _ _ => N8
        refine hQQ _ _ ?_
        exact Hold.mk ⟨rfl, fun PP kk => kk _ _ _ _ _ rfl F8 (News.up1 N8) pQ ⟨n1, n2, n3, n4, n5, n6, n7, n8, n9, n10⟩ n11 n12⟩
        --]C9
      clear F1 N1 n1 n2 n3 n4 n5 n6 n7 n8 n9 n10 n11 n12
      intro s' hPP
      refine hPP _ ?_
      clear hPP
      rintro h' tk m' vsQ eQ rfl F1 N1 pQ ⟨n1, n2, n3, n4, n5, n6, n7, n8, n9, n10⟩ n11 n12
      rw [pairs_del hkb5 lt5] at pQ
      have l05 : ∀ x ∈ S.ps.filter (fun q => q.1 != kb), x.1 < 5 ∧ S.par x.1 < 5 := fun x hx => lt5 x.1 (List.mem_map_of_mem (List.mem_filter.mp hx).1)
      have l0n : ((S.ps.filter (fun q => q.1 != kb)).map (·.1)).Nodup := (List.nodup_append.mp (nodup_part (fun q => q.1 != kb) gi.G.nd)).1
      have l0l : (S.ps.filter (fun q => q.1 != kb)).length ≤ 4 := by have e2 := gi.len; have := List.length_filter_le (fun q : Nat × Bool => q.1 != kb) S.ps; lia  
      have php : S.par kb ≠ kb := by have := (gi.G.pl kb hkb).1; lia  
      refine exec_join (fun s' => ∀ PP : Prop, (∀ h' tk m' vsQ eQ nn', (s' = { s with heap := h', toks := tk, drawn := dr }) → (Fr g' L' h' m') → (News g' L' h' ((I, oI) :: (PA, lstO vsQ eQ) :: (BD, oB2) :: (RD, oR2) :: (L' + 1 + 1 + 1, ol) :: (L' + 1 + 1, oh) :: (L' + 1, op) :: nn')) → (PL nn' vsQ (pairsT (S.glue kb))) → (∀ p ∈ nn3, p ∈ nn') → (∀ p ∈ nn', p ∈ nn3 ∨ (p.1 ≠ PA ∧ p.1 ≠ BD ∧ p.1 ≠ RD ∧ p.1 ≠ L' + 1 + 1 + 1 ∧ p.1 ≠ L' + 1 + 1 ∧ p.1 ≠ L' + 1)) → (∀ p ∈ nn', p.1 ≠ I) → (Nm m' OX H DU RD BD PA KL gr lo tg tl tL) → (m' (Str.ofString "old") = some (.ref Th)) → (m' (Str.ofString "kept") = some (.ref KE)) → PP) → PP) ?_ ?_
      · refine opqQ ?_
        intro QQ hQQ
        --[CA
        have mH' : (H, instObj 276 D) ∈ (I, oI) :: (PA, lstO vsQ eQ) :: (BD, oB2) :: (RD, oR2) :: (L' + 1 + 1 + 1, ol) :: (L' + 1 + 1, oh) :: (L' + 1, op) :: nn3 := .tail _ (.tail _ (.tail _ (.tail _ (.tail _ (.tail _ (.tail _ (gi3.mH)))))))
        have mD' : (D, hdD w PA tH) ∈ (I, oI) :: (PA, lstO vsQ eQ) :: (BD, oB2) :: (RD, oR2) :: (L' + 1 + 1 + 1, ol) :: (L' + 1 + 1, oh) :: (L' + 1, op) :: nn3 := .tail _ (.tail _ (.tail _ (.tail _ (.tail _ (.tail _ (.tail _ (gi3.mD)))))))
        have mPA' : (PA, lstO vsQ eQ) ∈ (I, oI) :: (PA, lstO vsQ eQ) :: (BD, oB2) :: (RD, oR2) :: (L' + 1 + 1 + 1, ol) :: (L' + 1 + 1, oh) :: (L' + 1, op) :: nn3 := .tail _ (.head _)
        have pQ' : PL ((I, oI) :: (PA, lstO vsQ eQ) :: (BD, oB2) :: (RD, oR2) :: (L' + 1 + 1 + 1, ol) :: (L' + 1 + 1, oh) :: (L' + 1, op) :: nn3) vsQ ((S.ps.filter (fun q => q.1 != kb)).map (pT S)) := pQ.mono fun p hp => .tail _ (.tail _ (.tail _ (.tail _ (.tail _ (.tail _ (.tail _ (hp)))))))
        have hszQ : vsQ.length ≤ 1000 := by have e1 := pQ.len; rw [List.length_map] at e1; lia  
        refine For_turns (by assumption) ?_
        repeat' (first | ((with_reducible show wpAny _ _ (PySem.call (Value.ref _) _ _) _ _ _); (k_here; (with_reducible show wpAny _ _ (call (Value.ref 228) _ _) _ _ _); k_dflt (refine keys_c (by k_asm) (by with_reducible assumption) (by k_asm) (by with_reducible assumption) (by k_asm) rfl (by first | exact rmN (k := 6) hd rfl | exact rmN (k := 11) hd rfl | exact rmN (k := 16) hd rfl | exact rmN (k := 21) hd rfl | exact rmN (k := 26) hd rfl | ((try dsimp only [ktrTop]); omega)) (by first | exact rmN (k := 43) hu rfl | exact rmN (k := 83) hu rfl | exact rmN (k := 123) hu rfl | exact rmN (k := 163) hu rfl | ((try dsimp only [ktrTop]); omega)) (by first | with_reducible assumption | assumption) (by first | with_reducible assumption | assumption) (by first | with_reducible assumption | assumption) (by first | with_reducible assumption | assumption) (by first | with_reducible assumption | assumption) ?_); intro _ _ _ _ _ _ _ _)) | (k_unfold; (try dsimp only)) | (k_end; kc_close) | walk1 | (dsimp only; first | ((with_reducible show wpAny _ _ (PySem.call (Value.ref _) _ _) _ _ _); (k_here; (with_reducible show wpAny _ _ (call (Value.ref 228) _ _) _ _ _); k_dflt (refine keys_c (by k_asm) (by with_reducible assumption) (by k_asm) (by with_reducible assumption) (by k_asm) rfl (by first | exact rmN (k := 6) hd rfl | exact rmN (k := 11) hd rfl | exact rmN (k := 16) hd rfl | exact rmN (k := 21) hd rfl | exact rmN (k := 26) hd rfl | ((try dsimp only [ktrTop]); omega)) (by first | exact rmN (k := 43) hu rfl | exact rmN (k := 83) hu rfl | exact rmN (k := 123) hu rfl | exact rmN (k := 163) hu rfl | ((try dsimp only [ktrTop]); omega)) (by first | with_reducible assumption | assumption) (by first | with_reducible assumption | assumption) (by first | with_reducible assumption | assumption) (by first | with_reducible assumption | assumption) (by first | with_reducible assumption | assumption) ?_); intro _ _ _ _ _ _ _ _)) | walk1) | (leave1; (try dsimp only)))
        rename Fr _ _ _ _ => F3
        rename News _ _ _ _ => N3
        rename SL _ _ => sK
        rename List Value => ysK
        rename_i rK hK kK lK
        have rKP : rK ≠ PA := (lK _ (.tail _ (.head _))).symm
        rw [List.map_map] at sK
        refine for_list (fun rem m₁ n₁ => ∃ vsQ eQ nx dn rs, S.ps.filter (fun q => q.1 != kb) = dn ++ rs ∧ SL rem (rs.map txtK) ∧ n₁ = (PA, lstO vsQ eQ) :: (rK, LCg.lst ysK) :: (I, oI) :: (BD, oB2) :: (RD, oR2) :: (L' + 1 + 1 + 1, ol) :: (L' + 1 + 1, oh) :: (L' + 1, op) :: nx ∧ PL nx vsQ (cur S kb dn rs) ∧ (∀ p ∈ nn3, p ∈ nx) ∧
          (∀ p ∈ nx, p ∈ nn3 ∨ (p.1 ≠ PA ∧ p.1 ≠ BD ∧ p.1 ≠ RD ∧ p.1 ≠ L' + 1 + 1 + 1 ∧ p.1 ≠ L' + 1 + 1 ∧ p.1 ≠ L' + 1)) ∧ (∀ p ∈ nx, p.1 ≠ I) ∧ (∀ p ∈ nx, p.1 ≠ PA) ∧
          Nm m₁ OX H DU RD BD PA KL gr lo tg tl tL ∧ m₁ (Str.ofString "old") = some (.ref Th) ∧ m₁ (Str.ofString "kept") = some (.ref KE)) rfl F3 (News.up2 N3) (.tail _ (.head _)) rfl rfl
          ⟨vsQ, eQ, nn3, [], _, rfl, sK, rfl, by rw [cur_start]; exact pQ, fun _ h => h, fun _ h => .inl h, nI3, gi3.f1, ⟨n1, n2, n3, n4, n5, n6, n7, n8, n9, n10⟩, n11, n12⟩ ?_ ?_
        · clear F3 N3 n1 n2 n3 n4 n5 n6 n7 n8 n9 n10 n11 n12 mH' mD' mPA' pQ' hszQ pQ F1 N1
          rintro I2 v r m₁ n₁ oI2 h tk ⟨vsQ, eQ, nx, dn, rs, es, sr, rfl, pQ, sx, fx, nIx, nPx, ⟨n1, n2, n3, n4, n5, n6, n7, n8, n9, n10⟩, n11, n12⟩ hI2 hmm F1 N1
          cases rs with
          | nil => cases sr
          | cons q rs =>
            cases sr with | @cons x tx r l sr =>
            have h5 : ∀ x ∈ dn ++ q :: rs, x.1 < 5 ∧ S.par x.1 < 5 := fun x hx => l05 x (es ▸ hx)
            have hn : ((dn ++ q :: rs).map (·.1)).Nodup := es ▸ l0n
            have hq := h5 q (List.mem_append_right _ (.head _))
            have hf := cur_find (S := S) (p := kb) (fun x hx => (h5 x hx).1) hn
            have opk := cur_ok (S := S) (p := kb) h5 hh5
            have on := okS_txt hq.1
            have oln : OkS (Txt.lower (txtK q)) := by rw [lower_txt hq.1]; exact okS_letter hq.1
            have mH' : (H, instObj 276 D) ∈ (I2, oI2) :: (PA, lstO vsQ eQ) :: (rK, LCg.lst ysK) :: (I, oI) :: (BD, oB2) :: (RD, oR2) :: (L' + 1 + 1 + 1, ol) :: (L' + 1 + 1, oh) :: (L' + 1, op) :: nx := .tail _ (.tail _ (.tail _ (.tail _ (.tail _ (.tail _ (.tail _ (.tail _ (.tail _ (sx _ gi3.mH)))))))))
            have mD' : (D, hdD w PA tH) ∈ (I2, oI2) :: (PA, lstO vsQ eQ) :: (rK, LCg.lst ysK) :: (I, oI) :: (BD, oB2) :: (RD, oR2) :: (L' + 1 + 1 + 1, ol) :: (L' + 1 + 1, oh) :: (L' + 1, op) :: nx := .tail _ (.tail _ (.tail _ (.tail _ (.tail _ (.tail _ (.tail _ (.tail _ (.tail _ (sx _ gi3.mD)))))))))
            have mPA' : (PA, lstO vsQ eQ) ∈ (I2, oI2) :: (PA, lstO vsQ eQ) :: (rK, LCg.lst ysK) :: (I, oI) :: (BD, oB2) :: (RD, oR2) :: (L' + 1 + 1 + 1, ol) :: (L' + 1 + 1, oh) :: (L' + 1, op) :: nx := .tail _ (.head _)
            have pQ' : PL ((I2, oI2) :: (PA, lstO vsQ eQ) :: (rK, LCg.lst ysK) :: (I, oI) :: (BD, oB2) :: (RD, oR2) :: (L' + 1 + 1 + 1, ol) :: (L' + 1 + 1, oh) :: (L' + 1, op) :: nx) vsQ (cur S kb dn (q :: rs)) := pQ.mono fun p hp => .tail _ (.tail _ (.tail _ (.tail _ (.tail _ (.tail _ (.tail _ (.tail _ (.tail _ (hp)))))))))
            have moh : (L' + 1 + 1, oh) ∈ (I2, oI2) :: (PA, lstO vsQ eQ) :: (rK, LCg.lst ysK) :: (I, oI) :: (BD, oB2) :: (RD, oR2) :: (L' + 1 + 1 + 1, ol) :: (L' + 1 + 1, oh) :: (L' + 1, op) :: nx := .tail _ (.tail _ (.tail _ (.tail _ (.tail _ (.tail _ (.tail _ (.head _)))))))
            have mop : (L' + 1, op) ∈ (I2, oI2) :: (PA, lstO vsQ eQ) :: (rK, LCg.lst ysK) :: (I, oI) :: (BD, oB2) :: (RD, oR2) :: (L' + 1 + 1 + 1, ol) :: (L' + 1 + 1, oh) :: (L' + 1, op) :: nx := .tail _ (.tail _ (.tail _ (.tail _ (.tail _ (.tail _ (.tail _ (.tail _ (.head _))))))))
            change wpAny _ _ (assign _ _ (.str (txtK q) tx)) _ _ _
            refine assign_local F1 N1 rfl rfl rfl ?_
            clear F1 N1
            intro h1 F1 N1
            refine opq ?_
            intro QT ET hQT
            have hK : ∀ p ∈ [(rK, LCg.lst ysK)], p ∈ (PA, lstO vsQ eQ) :: (rK, LCg.lst ysK) :: (I, oI) :: (BD, oB2) :: (RD, oR2) :: (L' + 1 + 1 + 1, ol) :: (L' + 1 + 1, oh) :: (L' + 1, op) :: nx := fun p hp => by rw [List.mem_singleton.mp hp]; exact .tail _ (.head _)
            have hul : (txtK q).length ≤ 5592405 := Nat.le_trans (Nat.le_of_lt on.2) (by decide)
            have hszQ : vsQ.length ≤ 1000 := by have e1 := pQ.len; have e2 := cur_len (S := S) (p := kb) (dn := dn) (rs := q :: rs); have e3 := congrArg List.length es; rw [List.length_append] at e3; lia  
            repeat' (first | ((with_reducible show wpAny _ _ (setItem (Value.ref _) (Value.str _ _) _) _ _ _); (k_here; (with_reducible show wpAny _ _ (setItem (Value.ref _) (Value.str _ _) (Value.str _ _)) _ _ _); k_dflt (refine ksp_setItem (by k_asm) (by k_asm) (by k_inst) (by k_is) (by k_is) (by k_is) ?_))) | ((with_reducible show wpAny _ _ (PySem.call (Value.ref _) _ _) _ _ _); (k_here; (with_reducible show wpAny _ _ (call (Value.ref 189) _ _) _ _ _); refine Hold.out ?_)) | ((with_reducible show wpAny _ _ (PySem.call (Value.ref _) _ _) _ _ _); (k_here; (with_reducible show wpAny _ _ (call (Value.ref 223) _ _) _ _ _); k_dflt (refine get_c (ln := Str.empty) (by k_asm) (by with_reducible assumption) (by k_asm) (by with_reducible assumption) (by k_asm) rfl (by first | exact rmN (k := 6) hd rfl | exact rmN (k := 11) hd rfl | exact rmN (k := 16) hd rfl | exact rmN (k := 21) hd rfl | exact rmN (k := 26) hd rfl | ((try dsimp only [ktrTop]); omega)) (by first | exact rmN (k := 43) hu rfl | exact rmN (k := 83) hu rfl | exact rmN (k := 123) hu rfl | exact rmN (k := 163) hu rfl | ((try dsimp only [ktrTop]); omega)) (by first | with_reducible assumption | assumption) (by first | with_reducible assumption | assumption) (by first | with_reducible assumption | assumption) (by first | with_reducible assumption | assumption) (by first | with_reducible assumption | assumption) (by first | with_reducible assumption | assumption) (by first | with_reducible assumption | assumption) (by with_reducible assumption) ?_); intro _ _ _ _ _)) | ((with_reducible show wpAny _ _ (PySem.call (Value.builtin "str.upper") _ _) _ _ _); (k_here; k_dflt (refine call_upper (by first | with_reducible assumption | exact Nat.le_of_ble_eq_true rfl) ?_))) | (k_unfold; (try dsimp only)) | (k_end; kc_close) | walk1 | (dsimp only; first | ((with_reducible show wpAny _ _ (setItem (Value.ref _) (Value.str _ _) _) _ _ _); (k_here; (with_reducible show wpAny _ _ (setItem (Value.ref _) (Value.str _ _) (Value.str _ _)) _ _ _); k_dflt (refine ksp_setItem (by k_asm) (by k_asm) (by k_inst) (by k_is) (by k_is) (by k_is) ?_))) | ((with_reducible show wpAny _ _ (PySem.call (Value.ref _) _ _) _ _ _); (k_here; (with_reducible show wpAny _ _ (call (Value.ref 189) _ _) _ _ _); refine Hold.out ?_)) | ((with_reducible show wpAny _ _ (PySem.call (Value.ref _) _ _) _ _ _); (k_here; (with_reducible show wpAny _ _ (call (Value.ref 223) _ _) _ _ _); k_dflt (refine get_c (ln := Str.empty) (by k_asm) (by with_reducible assumption) (by k_asm) (by with_reducible assumption) (by k_asm) rfl (by first | exact rmN (k := 6) hd rfl | exact rmN (k := 11) hd rfl | exact rmN (k := 16) hd rfl | exact rmN (k := 21) hd rfl | exact rmN (k := 26) hd rfl | ((try dsimp only [ktrTop]); omega)) (by first | exact rmN (k := 43) hu rfl | exact rmN (k := 83) hu rfl | exact rmN (k := 123) hu rfl | exact rmN (k := 163) hu rfl | ((try dsimp only [ktrTop]); omega)) (by first | with_reducible assumption | assumption) (by first | with_reducible assumption | assumption) (by first | with_reducible assumption | assumption) (by first | with_reducible assumption | assumption) (by first | with_reducible assumption | assumption) (by first | with_reducible assumption | assumption) (by first | with_reducible assumption | assumption) (by with_reducible assumption) ?_); intro _ _ _ _ _)) | ((with_reducible show wpAny _ _ (PySem.call (Value.builtin "str.upper") _ _) _ _ _); (k_here; k_dflt (refine call_upper (by first | with_reducible assumption | exact Nat.le_of_ble_eq_true rfl) ?_))) | walk1) | (leave1; (try dsimp only)))
            · rename (letter (S.par q.1) == letter kb) = true => hc
              rw [letter_beq] at hc
              have hpar := of_decide_eq_true hc
              have on2 : OkS (Txt.upper (txtK q)) := by rw [upper_txt hq.1]; exact okS_upper hq.1
              have oln2 : OkS (Txt.lower (Txt.upper (txtK q))) := by rw [upper_txt hq.1, lower_upper q.1 hq.1]; exact okS_letter hq.1
              rename Fr _ _ _ _ => F6
              rename News _ _ _ _ => N6
              refine Hold.mk (setitem_c (news := (I2, oI2) :: (rK, LCg.lst ysK) :: (I, oI) :: (BD, oB2) :: (RD, oR2) :: (L' + 1 + 1 + 1, ol) :: (L' + 1 + 1, oh) :: (L' + 1, op) :: nx) (H := H) (td := tH) B' F6 X' (News.up1 N6) T' rfl (by (try dsimp only [ktrTop]); lia  ) (by (try dsimp only [ktrTop]); lia  )
                (neA (fun e => hI2 _ (.head _) e.symm) (neA rKP (neA zIP (neA zPB.symm (neA zPR.symm (neA zP3.symm (neA zP2.symm (neA zP1.symm nPx)))))))) (.tail _ (.tail _ (.tail _ (.tail _ (.tail _ (.tail _ (.tail _ (.tail _ (sx _ gi3.mH))))))))) (.tail _ (.tail _ (.tail _ (.tail _ (.tail _ (.tail _ (.tail _ (.tail _ (sx _ gi3.mD))))))))) pQ (fun _ hp => .tail _ (.tail _ (.tail _ (.tail _ (.tail _ (.tail _ (.tail _ (.tail _ (hp))))))))) opk hszQ on2 oln2 (okS_letter hh5) ?_)
              intro vsR TR tr1 tr2 eR hR kR2' FR NR lR lR2 pR
              clear F6 N6
              k_steps
              rename Fr _ _ _ _ => F8
              rename News _ _ _ _ => N8
              rw [upper_txt hq.1] at N8
              refine hQT _ _ ?_
              refine TurnTo.mk F8 (News.sub N8 (sub_cons (.tail _ (.tail _ (.head _))) (sub_cons (.head _) (sub_cons (.tail _ (.tail _ (.tail _ (.head _)))) (sub_cons (.tail _ (.tail _ (.tail _ (.tail _ (.head _))))) (sub_cons (.tail _ (.tail _ (.tail _ (.tail _ (.tail _ (.head _)))))) (sub_cons (.tail _ (.tail _ (.tail _ (.tail _ (.tail _ (.tail _ (.head _))))))) (sub_cons (.tail _ (.tail _ (.tail _ (.tail _ (.tail _ (.tail _ (.tail _ (.head _)))))))) (sub_cons (.tail _ (.tail _ (.tail _ (.tail _ (.tail _ (.tail _ (.tail _ (.tail _ (.head _))))))))) (sub_cons (.tail _ (.tail _ (.tail _ (.tail _ (.tail _ (.tail _ (.tail _ (.tail _ (.tail _ (.head _)))))))))) (sub_cons (.tail _ (.head _)) fun _ hp => .tail _ (.tail _ (.tail _ (.tail _ (.tail _ (.tail _ (.tail _ (.tail _ (.tail _ (.tail _ (hp))))))))))))))))))))) (neA (hI2 _ (.head _)) (neA (hI2 _ (.tail _ (.head _))) (neA (hI2 _ (.tail _ (.tail _ (.head _)))) (neA (hI2 _ (.tail _ (.tail _ (.tail _ (.head _))))) (neA (hI2 _ (.tail _ (.tail _ (.tail _ (.tail _ (.head _)))))) (neA (hI2 _ (.tail _ (.tail _ (.tail _ (.tail _ (.tail _ (.head _))))))) (neA (hI2 _ (.tail _ (.tail _ (.tail _ (.tail _ (.tail _ (.tail _ (.head _)))))))) (neA (hI2 _ (.tail _ (.tail _ (.tail _ (.tail _ (.tail _ (.tail _ (.tail _ (.head _))))))))) (neA (Nat.ne_of_gt (lR _ (.head _))) fun p hp => hI2 p (.tail _ (.tail _ (.tail _ (.tail _ (.tail _ (.tail _ (.tail _ (.tail _ (hp)))))))))))))))))) (fun p hp => by rw [List.mem_singleton.mp hp]; exact .tail _ (.head _)) ⟨_, eR, (TR, _) :: nx, dn ++ [q], rs, by rw [es]; simp, sr, rfl, ?_, fun p hp => .tail _ (sx p hp), ?_, neA (Nat.ne_of_gt (lR _ (.tail _ (.tail _ (.head _))))) nIx, neA (Nat.ne_of_gt lR2) nPx, ⟨n1, n2, n3, n4, n5, n6, n7, n8, n9, n10⟩, n11, n12⟩
              · rw [← cur_move hpar (fun x hx => (h5 x hx).1) hn]
                exact (pR.mono fun _ hp => .tail _ hp).append (.cons (.head _) .nil)
              · intro p hp
                rcases List.mem_cons.mp hp with rfl | hp
                · exact .inr ⟨Nat.ne_of_gt lR2, Nat.ne_of_gt (lR _ (.tail _ (.tail _ (.tail _ (.head _))))), Nat.ne_of_gt (lR _ (.tail _ (.tail _ (.tail _ (.tail _ (.head _)))))), Nat.ne_of_gt (lR _ (.tail _ (.tail _ (.tail _ (.tail _ (.tail _ (.head _))))))), Nat.ne_of_gt (lR _ (.tail _ (.tail _ (.tail _ (.tail _ (.tail _ (.tail _ (.head _)))))))), Nat.ne_of_gt (lR _ (.tail _ (.tail _ (.tail _ (.tail _ (.tail _ (.tail _ (.tail _ (.head _)))))))))⟩
                · exact fx p hp
            · rename (letter (S.par q.1) == letter kb) = false => hc
              rw [letter_beq] at hc
              have hpar := of_decide_eq_false hc
              rename Fr _ _ _ _ => F6
              rename News _ _ _ _ => N6
              refine hQT _ _ ?_
              exact TurnTo.mk F6 N6 hI2 hK ⟨vsQ, eQ, nx, dn ++ [q], rs, by rw [es]; simp, sr, rfl, by rw [← cur_keep hpar]; exact pQ, sx, fx, nIx, nPx, ⟨n1, n2, n3, n4, n5, n6, n7, n8, n9, n10⟩, n11, n12⟩
        · rintro m₁ n₁ h tk ⟨vsQ, eQ, nx, dn, rs, es, sr, rfl, pQ, sx, fx, nIx, nPx, nm, n11', n12'⟩ F4 N4
          clear F3 N3
          cases rs with
          | cons q rs => cases sr
          | nil =>
            rw [List.append_nil] at es
            subst es
            rw [cur_end] at pQ
            k_steps
            refine hQQ _ _ ?_
            exact Hold.mk ⟨rfl, fun PP kk => kk _ _ _ _ _ nx rfl F4 (News.sub N4 (sub_cons (.tail _ (.tail _ (.head _))) (sub_cons (.head _) (sub_cons (.tail _ (.tail _ (.tail _ (.head _)))) (sub_cons (.tail _ (.tail _ (.tail _ (.tail _ (.head _))))) (sub_cons (.tail _ (.tail _ (.tail _ (.tail _ (.tail _ (.head _)))))) (sub_cons (.tail _ (.tail _ (.tail _ (.tail _ (.tail _ (.tail _ (.head _))))))) (sub_cons (.tail _ (.tail _ (.tail _ (.tail _ (.tail _ (.tail _ (.tail _ (.head _)))))))) fun _ hp => .tail _ (.tail _ (.tail _ (.tail _ (.tail _ (.tail _ (.tail _ (.tail _ (hp)))))))))))))))) pQ sx fx nIx nm n11' n12'⟩
        --]CA
      clear F1 N1 n1 n2 n3 n4 n5 n6 n7 n8 n9 n10 n11 n12 pQ
      intro s' hPP
      refine hPP _ ?_
      clear hPP
      rintro h' tk m' vsQ eQ nn4 rfl F1 N1 pQ s4 fx4 nI4 ⟨n1, n2, n3, n4, n5, n6, n7, n8, n9, n10⟩ n11 n12
      have gi4 := gi3.mono s4 fx4
      obtain ⟨vsD, eD, mDU, pD⟩ := gi4.du
      have dlen : vsD.length ≤ 4 := by have e1 := pD.len; have e2 := gi.len; unfold pairsT at e1; rw [List.length_map] at e1; lia  
      refine exec_join (fun s' => ∀ PP : Prop, (∀ h' tk m' DV vsV eV nn', (s' = { s with heap := h', toks := tk, drawn := dr }) → (Fr g' L' h' m') → (News g' L' h' ((I, oI) :: (PA, lstO vsQ eQ) :: (BD, oB2) :: (RD, oR2) :: (L' + 1 + 1 + 1, ol) :: (L' + 1 + 1, oh) :: (L' + 1, op) :: nn')) → ((DV, lstO vsV eV) ∈ nn') → (PL nn' vsV ((S.ps.filter (fun q => q.1 != kb)).map (pT S))) → (∀ p ∈ nn4, p ∈ nn') → (∀ p ∈ nn', p.1 ≠ I) → (∀ p ∈ nn', p ∈ nn4 ∨ (p.1 ≠ PA ∧ p.1 ≠ BD ∧ p.1 ≠ RD ∧ p.1 ≠ L' + 1 + 1 + 1 ∧ p.1 ≠ L' + 1 + 1 ∧ p.1 ≠ L' + 1)) → (Nm m' OX H DV RD BD PA KL gr lo tg tl tL) → (m' (Str.ofString "old") = some (.ref Th)) → (m' (Str.ofString "kept") = some (.ref KE)) → PP) → PP) ?_ ?_
      · refine opq ?_
        intro QQ EE hQQ
        --[CB
        have mop : (L' + 1, op) ∈ (I, oI) :: (PA, lstO vsQ eQ) :: (BD, oB2) :: (RD, oR2) :: (L' + 1 + 1 + 1, ol) :: (L' + 1 + 1, oh) :: (L' + 1, op) :: nn4 := .tail _ (.tail _ (.tail _ (.tail _ (.tail _ (.tail _ (.head _))))))
        repeat' (first | ((with_reducible show LCt.CompSrcT _ _ _ _ _ _ _ _ _ _ _ _ _ _ _ ); refine Hold.out ?_) | ((with_reducible show wpAny _ _ (exec (Stmt.Assign [_] (Expr.ListComp _ _ _ _) _) _) _ _ _); (k_here; first | ((with_reducible show wpAny _ _ (exec (Stmt.Assign [Expr.Name _ _] (Expr.ListComp _ [⟨Expr.Name _ _, _, [], _⟩] _ _) _) _) _ _ _); k_dflt (refine LCg.Assign_ListComp_U (F₀ := by k_asm) (by rfl) (by with_unfolding_all rfl) (by with_unfolding_all rfl) (by decide) (by rfl) (by decide) (by rfl) (by rfl) (by rfl) ?_)) | ((with_reducible show wpAny _ _ (exec (Stmt.Assign [Expr.Name _ _] (Expr.ListComp _ [⟨Expr.Name _ _, _, [_], _⟩] _ _) _) _) _ _ _); k_dflt (refine LCt.Assign_ListComp_T (F₀ := by k_asm) (by rfl) (by with_unfolding_all rfl) (by with_unfolding_all rfl) (by decide) (by rfl) (by decide) (by rfl) (by rfl) (by rfl) ?_)) | refine Hold.out ?_)) | (k_unfold; (try dsimp only)) | (k_end; kc_close) | walk1 | (dsimp only; first | ((with_reducible show LCt.CompSrcT _ _ _ _ _ _ _ _ _ _ _ _ _ _ _ ); refine Hold.out ?_) | ((with_reducible show wpAny _ _ (exec (Stmt.Assign [_] (Expr.ListComp _ _ _ _) _) _) _ _ _); (k_here; first | ((with_reducible show wpAny _ _ (exec (Stmt.Assign [Expr.Name _ _] (Expr.ListComp _ [⟨Expr.Name _ _, _, [], _⟩] _ _) _) _) _ _ _); k_dflt (refine LCg.Assign_ListComp_U (F₀ := by k_asm) (by rfl) (by with_unfolding_all rfl) (by with_unfolding_all rfl) (by decide) (by rfl) (by decide) (by rfl) (by rfl) (by rfl) ?_)) | ((with_reducible show wpAny _ _ (exec (Stmt.Assign [Expr.Name _ _] (Expr.ListComp _ [⟨Expr.Name _ _, _, [_], _⟩] _ _) _) _) _ _ _); k_dflt (refine LCt.Assign_ListComp_T (F₀ := by k_asm) (by rfl) (by with_unfolding_all rfl) (by with_unfolding_all rfl) (by decide) (by rfl) (by decide) (by rfl) (by rfl) (by rfl) ?_)) | refine Hold.out ?_)) | walk1) | (leave1; (try dsimp only)))
        rename Fr _ _ _ _ => F3
        rename News _ _ _ _ => N3
        refine Hold.mk (src_T (fun rem ys n => n = (I, oI) :: (PA, lstO vsQ eQ) :: (BD, oB2) :: (RD, oR2) :: (L' + 1 + 1 + 1, ol) :: (L' + 1 + 1, oh) :: (L' + 1, op) :: nn4 ∧ ∃ rs ds, PL nn4 rem rs ∧ OkP rs ∧ PL nn4 ys (ds.filter (fun p => !(Txt.lower p.1 == letter kb))) ∧ ds ++ rs = pairsT S) rfl F3 N3 (.tail _ (.tail _ (.tail _ (.tail _ (.tail _ (.tail _ (.tail _ (mDU)))))))) (by rw [sizeLine_eq]; lia  ) ⟨rfl, pairsT S, [], pD, okP_pairs lt5, .nil, rfl⟩ ?_ ?_)
        · rintro s' ⟨gg, rfl⟩ v r ys n I5 oI5 C5 oC5 D5 m₂ h tk E' ⟨rfl, rs, ds, hr, hor, hs, e⟩ hm hC hx F5 N5 off ne
          clear F3 N3
          cases hr with | @cons a' k' v' tk' tv _ rl ha hr =>
          have k1 := hor.head.1
          have ha' : (a', tupO [.str k' tk', .str v' tv]) ∈ (I5, oI5) :: (C5, oC5) :: (D5, LCg.lst ys) :: (I, oI) :: (PA, lstO vsQ eQ) :: (BD, oB2) :: (RD, oR2) :: (L' + 1 + 1 + 1, ol) :: (L' + 1 + 1, oh) :: (L' + 1, op) :: nn4 := .tail _ (.tail _ (.tail _ (.tail _ (.tail _ (.tail _ (.tail _ (.tail _ (.tail _ (.tail _ (ha))))))))))
          have mop2 : (L' + 1, op) ∈ (I5, oI5) :: (C5, oC5) :: (D5, LCg.lst ys) :: (I, oI) :: (PA, lstO vsQ eQ) :: (BD, oB2) :: (RD, oR2) :: (L' + 1 + 1 + 1, ol) :: (L' + 1 + 1, oh) :: (L' + 1, op) :: nn4 := .tail _ (.tail _ (.tail _ (.tail _ (.tail _ (.tail _ (.tail _ (.tail _ (.tail _ (.head _)))))))))
          repeat' (first | ((with_reducible show wpAny _ _ (PySem.call (Value.builtin "str.lower") _ _) _ _ _); (k_here; k_dflt (refine call_lower (by first | with_reducible assumption | assumption) ?_))) | (k_unfold; (try dsimp only)) | (k_end; kc_close) | walk1 | (dsimp only; first | ((with_reducible show wpAny _ _ (PySem.call (Value.builtin "str.lower") _ _) _ _ _); (k_here; k_dflt (refine call_lower (by first | with_reducible assumption | assumption) ?_))) | walk1) | (leave1; (try dsimp only)))
          · rename (Txt.lower k' != letter kb) = true => hc
            refine CTo.mk F5 N5 off hm ⟨rfl, _, ds ++ [(k', v')], hr, hor.tail, ?_, by simp [← e]⟩
            rw [List.filter_append]
            refine hs.append ?_
            simp only [List.filter_cons, List.filter_nil]
            rw [show (!Txt.lower k' == letter kb) = true from hc, if_pos rfl]
            exact .cons ha .nil
          · rename (Txt.lower k' != letter kb) = false => hc
            refine CTo.mk F5 N5 off hm ⟨rfl, _, ds ++ [(k', v')], hr, hor.tail, ?_, by simp [← e]⟩
            rw [List.filter_append]
            simp only [List.filter_cons, List.filter_nil]
            rw [if_neg (by rw [show (!Txt.lower k' == letter kb) = false from hc]; exact Bool.false_ne_true), List.append_nil]
            exact hs
        · rintro gg ys n ⟨rfl, rs, ds, hr, _, hs, e⟩ hm
          clear F3 N3
          cases hr
          have e' : ds = pairsT S := by simpa using e
          subst e'
          have pd := pairs_del (S := S) hkb5 lt5
          rw [upper_letter kb hkb5, lower_upper kb hkb5] at pd
          rw [pd] at hs
          k_steps
          rename Fr _ _ _ _ => F6
          rename News _ _ _ _ => N6
          rename _ ∧ _ => oN
          refine hQQ _ _ ?_
          refine Hold.mk ⟨rfl, fun PP kk => kk _ _ _ _ ys _ ((_, LCg.lst ys) :: nn4) rfl F6 (News.sub N6 (sub_cons (.tail _ (.head _)) (sub_cons (.tail _ (.tail _ (.head _))) (sub_cons (.tail _ (.tail _ (.tail _ (.head _)))) (sub_cons (.tail _ (.tail _ (.tail _ (.tail _ (.head _))))) (sub_cons (.tail _ (.tail _ (.tail _ (.tail _ (.tail _ (.head _)))))) (sub_cons (.tail _ (.tail _ (.tail _ (.tail _ (.tail _ (.tail _ (.head _))))))) (sub_cons (.tail _ (.tail _ (.tail _ (.tail _ (.tail _ (.tail _ (.tail _ (.head _)))))))) (sub_cons (.head _) fun _ hp => .tail _ (.tail _ (.tail _ (.tail _ (.tail _ (.tail _ (.tail _ (.tail _ (hp))))))))))))))))) (.head _) (hs.mono fun _ hp => .tail _ hp) (fun _ hp => .tail _ hp) (neA oN.1.symm nI4) ?_ ⟨n1, n2, rfl, n4, n5, n6, n7, n8, n9, n10⟩ n11 n12⟩
          intro p hp
          rcases List.mem_cons.mp hp with rfl | hp
          · exact .inr ⟨oN.2.1.symm, oN.2.2.1.symm, oN.2.2.2.1.symm, oN.2.2.2.2.1.symm, oN.2.2.2.2.2.1.symm, oN.2.2.2.2.2.2.1.symm⟩
          · exact .inl hp
        --]CB
      clear F1 N1 n1 n2 n3 n4 n5 n6 n7 n8 n9 n10 n11 n12
      intro s' hPP
      refine hPP _ ?_
      clear hPP
      rintro h' tk m' DV vsV eV nn5 rfl F1 N1 mDV pV s5 nI5 fx5 ⟨n1, n2, n3, n4, n5, n6, n7, n8, n9, n10⟩ n11 n12
      have vlen : vsV.length ≤ 4 := by have e1 := pV.len; rw [List.length_map] at e1; lia  
      refine exec_join (fun s' => ∀ PP : Prop, (∀ h' tk m' DV vsV eV nn', (s' = { s with heap := h', toks := tk, drawn := dr }) → (Fr g' L' h' m') → (News g' L' h' ((I, oI) :: (PA, lstO vsQ eQ) :: (BD, oB2) :: (RD, oR2) :: (L' + 1 + 1 + 1, ol) :: (L' + 1 + 1, oh) :: (L' + 1, op) :: nn')) → ((DV, lstO vsV eV) ∈ nn') → (PL nn' vsV (pairsT (S.glue kb))) → (∀ p ∈ nn5, p ∈ nn') → (∀ p ∈ nn', p.1 ≠ I) → (∀ p ∈ nn', p ∈ nn5 ∨ (p.1 ≠ PA ∧ p.1 ≠ BD ∧ p.1 ≠ RD ∧ p.1 ≠ L' + 1 + 1 + 1 ∧ p.1 ≠ L' + 1 + 1 ∧ p.1 ≠ L' + 1)) → (Nm m' OX H DV RD BD PA KL gr lo tg tl tL) → (m' (Str.ofString "old") = some (.ref Th)) → (m' (Str.ofString "kept") = some (.ref KE)) → PP) → PP) ?_ ?_
      · refine opq ?_
        intro QQ EE hQQ
        --[CC
        repeat' (first | ((with_reducible show wpAny _ _ (eval (Expr.ListComp _ _ _ _) _) _ _ _); (k_here; first | ((with_reducible show wpAny _ _ (eval (Expr.ListComp _ [⟨Expr.Name _ _, _, [], _⟩] _ _) _) _ _ _); k_dflt (refine LCg.ListComp_U (F₀ := by k_asm) (by with_unfolding_all rfl) (by decide) (by rfl) (by decide) (by rfl) ?_)) | ((with_reducible show wpAny _ _ (eval (Expr.ListComp _ [⟨Expr.Name _ _, _, [_], _⟩] _ _) _) _ _ _); k_dflt (refine LCt.ListComp_T (F₀ := by k_asm) (by with_unfolding_all rfl) (by decide) (by rfl) (by decide) (by rfl) ?_)))) | ((with_reducible show LCt.CompSrcT _ _ _ _ _ _ _ _ _ _ _ _ _ _ _ ); refine Hold.out ?_) | (k_unfold; (try dsimp only)) | (k_end; kc_close) | walk1 | (dsimp only; first | ((with_reducible show wpAny _ _ (eval (Expr.ListComp _ _ _ _) _) _ _ _); (k_here; first | ((with_reducible show wpAny _ _ (eval (Expr.ListComp _ [⟨Expr.Name _ _, _, [], _⟩] _ _) _) _ _ _); k_dflt (refine LCg.ListComp_U (F₀ := by k_asm) (by with_unfolding_all rfl) (by decide) (by rfl) (by decide) (by rfl) ?_)) | ((with_reducible show wpAny _ _ (eval (Expr.ListComp _ [⟨Expr.Name _ _, _, [_], _⟩] _ _) _) _ _ _); k_dflt (refine LCt.ListComp_T (F₀ := by k_asm) (by with_unfolding_all rfl) (by decide) (by rfl) (by decide) (by rfl) ?_)))) | ((with_reducible show LCt.CompSrcT _ _ _ _ _ _ _ _ _ _ _ _ _ _ _ ); refine Hold.out ?_) | walk1) | (leave1; (try dsimp only)))
        rename Fr _ _ _ _ => F3
        rename News _ _ _ _ => N3
        refine Hold.mk (src_T (fun rem ys n => n = (I, oI) :: (PA, lstO vsQ eQ) :: (BD, oB2) :: (RD, oR2) :: (L' + 1 + 1 + 1, ol) :: (L' + 1 + 1, oh) :: (L' + 1, op) :: nn5 ∧ ∃ rs dn, S.ps.filter (fun q => q.1 != kb) = dn ++ rs ∧ PL nn5 rem (rs.map (pT S)) ∧ PL nn5 ys ((dn.filter (fun q => S.par q.1 != kb)).map (pT S))) rfl F3 N3 (.tail _ (.tail _ (.tail _ (.tail _ (.tail _ (.tail _ (.tail _ (mDV)))))))) (by rw [sizeLine_eq]; lia  ) ⟨rfl, _, [], rfl, pV, .nil⟩ ?_ ?_)
        · rintro s' ⟨gg, rfl⟩ v r ys n I5 oI5 C5 oC5 D5 m₂ h tk E' ⟨rfl, rs, dn, es, hr, hs⟩ hm hC hx F5 N5 off ne
          clear F3 N3
          cases rs with
          | nil => exact hr.nil_inv.elim
          | cons q rs =>
            obtain ⟨a', tk', tv, rfl, ha, hr⟩ := hr.inv
            have ha' : (a', tupO [.str (txtK q) tk', .str (letter (S.par q.1)) tv]) ∈ (I5, oI5) :: (C5, oC5) :: (D5, LCg.lst ys) :: (I, oI) :: (PA, lstO vsQ eQ) :: (BD, oB2) :: (RD, oR2) :: (L' + 1 + 1 + 1, ol) :: (L' + 1 + 1, oh) :: (L' + 1, op) :: nn5 := .tail _ (.tail _ (.tail _ (.tail _ (.tail _ (.tail _ (.tail _ (.tail _ (.tail _ (.tail _ (ha))))))))))
            have mop2 : (L' + 1, op) ∈ (I5, oI5) :: (C5, oC5) :: (D5, LCg.lst ys) :: (I, oI) :: (PA, lstO vsQ eQ) :: (BD, oB2) :: (RD, oR2) :: (L' + 1 + 1 + 1, ol) :: (L' + 1 + 1, oh) :: (L' + 1, op) :: nn5 := .tail _ (.tail _ (.tail _ (.tail _ (.tail _ (.tail _ (.tail _ (.tail _ (.tail _ (.head _)))))))))
            k_steps
            · rename (letter (S.par q.1) != letter kb) = true => hc
              have hc2 : (S.par q.1 != kb) = true := by
                have : (!(letter (S.par q.1) == letter kb)) = true := hc
                rw [letter_beq] at this
                simpa using this
              refine CTo.mk F5 N5 off hm ⟨rfl, rs, dn ++ [q], by rw [es]; simp, hr, ?_⟩
              rw [List.filter_append, List.map_append]
              refine hs.append ?_
              rw [List.filter_cons, hc2]
              exact .cons ha .nil
            · rename (letter (S.par q.1) != letter kb) = false => hc
              have hc2 : (S.par q.1 != kb) = false := by
                have : (!(letter (S.par q.1) == letter kb)) = false := hc
                rw [letter_beq] at this
                simpa using this
              refine CTo.mk F5 N5 off hm ⟨rfl, rs, dn ++ [q], by rw [es]; simp, hr, ?_⟩
              rw [List.filter_append, List.filter_cons, hc2]
              simpa using hs
        · rintro gg ys n ⟨rfl, rs, dn, es, hr, hs⟩ hm
          clear F3 N3
          cases rs with
          | cons q rs => cases hr
          | nil =>
            rw [List.append_nil] at es
            subst es
            repeat' (first | ((with_reducible show wpAny _ _ (eval (Expr.ListComp _ _ _ _) _) _ _ _); (k_here; first | ((with_reducible show wpAny _ _ (eval (Expr.ListComp _ [⟨Expr.Name _ _, _, [], _⟩] _ _) _) _ _ _); k_dflt (refine LCg.ListComp_U (F₀ := by k_asm) (by with_unfolding_all rfl) (by decide) (by rfl) (by decide) (by rfl) ?_)) | ((with_reducible show wpAny _ _ (eval (Expr.ListComp _ [⟨Expr.Name _ _, _, [_], _⟩] _ _) _) _ _ _); k_dflt (refine LCt.ListComp_T (F₀ := by k_asm) (by with_unfolding_all rfl) (by decide) (by rfl) (by decide) (by rfl) ?_)))) | ((with_reducible show LCt.CompSrcT _ _ _ _ _ _ _ _ _ _ _ _ _ _ _ ); refine Hold.out ?_) | (k_unfold; (try dsimp only)) | (k_end; kc_close) | walk1 | (dsimp only; first | ((with_reducible show wpAny _ _ (eval (Expr.ListComp _ _ _ _) _) _ _ _); (k_here; first | ((with_reducible show wpAny _ _ (eval (Expr.ListComp _ [⟨Expr.Name _ _, _, [], _⟩] _ _) _) _ _ _); k_dflt (refine LCg.ListComp_U (F₀ := by k_asm) (by with_unfolding_all rfl) (by decide) (by rfl) (by decide) (by rfl) ?_)) | ((with_reducible show wpAny _ _ (eval (Expr.ListComp _ [⟨Expr.Name _ _, _, [_], _⟩] _ _) _) _ _ _); k_dflt (refine LCt.ListComp_T (F₀ := by k_asm) (by with_unfolding_all rfl) (by decide) (by rfl) (by decide) (by rfl) ?_)))) | ((with_reducible show LCt.CompSrcT _ _ _ _ _ _ _ _ _ _ _ _ _ _ _ ); refine Hold.out ?_) | walk1) | (leave1; (try dsimp only)))
            rename Fr _ _ _ _ => F6
            rename News _ _ _ _ => N6
            rename _ ∧ _ => oN
            rename_i D1 hE kE
            refine Hold.mk (src_T (fun rem zs n => ∃ X, n = X ++ (D1, LCg.lst ys) :: (I, oI) :: (PA, lstO vsQ eQ) :: (BD, oB2) :: (RD, oR2) :: (L' + 1 + 1 + 1, ol) :: (L' + 1 + 1, oh) :: (L' + 1, op) :: nn5 ∧ (∀ p ∈ X, ∀ q ∈ (D1, LCg.lst ys) :: (I, oI) :: (PA, lstO vsQ eQ) :: (BD, oB2) :: (RD, oR2) :: (L' + 1 + 1 + 1, ol) :: (L' + 1 + 1, oh) :: (L' + 1, op) :: nn5, q.1 < p.1) ∧ ∃ rs dn, S.ps.filter (fun q => q.1 != kb) = dn ++ rs ∧ PL nn5 rem (rs.map (pT S)) ∧ PL X zs ((dn.filter (fun q => S.par q.1 == kb)).map (pU S kb))) rfl F6 N6 (.tail _ (.tail _ (.tail _ (.tail _ (.tail _ (.tail _ (.tail _ (.tail _ (mDV))))))))) (by rw [sizeLine_eq]; lia  ) ⟨[], rfl, fun _ h => (nomatch h), _, [], rfl, pV, .nil⟩ ?_ ?_)
            · rintro s' ⟨gg, rfl⟩ v r zs n I5 oI5 C5 oC5 D5 m₂ h tk E' ⟨X, rfl, fr, rs, dn, es, hr, hs'⟩ hm hC hx F5 N5 off ne
              clear F6 N6
              cases rs with
              | nil => exact hr.nil_inv.elim
              | cons q rs =>
                obtain ⟨a', tk', tv, rfl, ha, hr⟩ := hr.inv
                have hq5 : q.1 < 5 := (l05 q (by rw [es]; simp)).1
                have ha' : (a', tupO [.str (txtK q) tk', .str (letter (S.par q.1)) tv]) ∈ (I5, oI5) :: (C5, oC5) :: (D5, LCg.lst zs) :: (X ++ (D1, LCg.lst ys) :: (I, oI) :: (PA, lstO vsQ eQ) :: (BD, oB2) :: (RD, oR2) :: (L' + 1 + 1 + 1, ol) :: (L' + 1 + 1, oh) :: (L' + 1, op) :: nn5) := .tail _ (.tail _ (.tail _ (List.mem_append_right _ (.tail _ (.tail _ (.tail _ (.tail _ (.tail _ (.tail _ (.tail _ (.tail _ (ha))))))))))))
                have mop2 : (L' + 1, op) ∈ (I5, oI5) :: (C5, oC5) :: (D5, LCg.lst zs) :: (X ++ (D1, LCg.lst ys) :: (I, oI) :: (PA, lstO vsQ eQ) :: (BD, oB2) :: (RD, oR2) :: (L' + 1 + 1 + 1, ol) :: (L' + 1 + 1, oh) :: (L' + 1, op) :: nn5) := .tail _ (.tail _ (.tail _ (List.mem_append_right _ (.tail _ (.tail _ (.tail _ (.tail _ (.tail _ (.tail _ (.tail _ (.head _)))))))))))
                have moh2 : (L' + 1 + 1, oh) ∈ (I5, oI5) :: (C5, oC5) :: (D5, LCg.lst zs) :: (X ++ (D1, LCg.lst ys) :: (I, oI) :: (PA, lstO vsQ eQ) :: (BD, oB2) :: (RD, oR2) :: (L' + 1 + 1 + 1, ol) :: (L' + 1 + 1, oh) :: (L' + 1, op) :: nn5) := .tail _ (.tail _ (.tail _ (List.mem_append_right _ (.tail _ (.tail _ (.tail _ (.tail _ (.tail _ (.tail _ (.head _))))))))))
                have hul : (txtK q).length ≤ 5592405 := Nat.le_trans (Nat.le_of_lt (okS_txt hq5).2) (by decide)
                repeat' (first | ((with_reducible show wpAny _ _ (newTuple _) _ _ _); (k_here; k_dflt (refine kup_newTuple (by k_asm) (by k_asm) ?_ (by kmk_size)); intro _ _ _ _ _)) | ((with_reducible show wpAny _ _ (PySem.call (Value.builtin "str.upper") _ _) _ _ _); (k_here; k_dflt (refine call_upper (by first | with_reducible assumption | exact Nat.le_of_ble_eq_true rfl) ?_))) | (k_unfold; (try dsimp only)) | (k_end; kc_close) | walk1 | (dsimp only; first | ((with_reducible show wpAny _ _ (newTuple _) _ _ _); (k_here; k_dflt (refine kup_newTuple (by k_asm) (by k_asm) ?_ (by kmk_size)); intro _ _ _ _ _)) | ((with_reducible show wpAny _ _ (PySem.call (Value.builtin "str.upper") _ _) _ _ _); (k_here; k_dflt (refine call_upper (by first | with_reducible assumption | exact Nat.le_of_ble_eq_true rfl) ?_))) | walk1) | (leave1; (try dsimp only)))
                · rename (letter (S.par q.1) == letter kb) = true => hc
                  rw [letter_beq] at hc
                  have hc2 : (S.par q.1 == kb) = true := by simpa using of_decide_eq_true hc
                  rename Fr _ _ _ _ => F7
                  rename News _ _ _ _ => N7
                  rename ∀ p : Addr × Obj, p ∈ _ → p.1 < _ => lz
                  rw [upper_txt hq5] at N7
                  refine CTo.mk F7 (News.sub N7 (n := (I5, oI5) :: (C5, oC5) :: (D5, LCg.lst zs) :: ((_, _) :: X ++ (D1, LCg.lst ys) :: (I, oI) :: (PA, lstO vsQ eQ) :: (BD, oB2) :: (RD, oR2) :: (L' + 1 + 1 + 1, ol) :: (L' + 1 + 1, oh) :: (L' + 1, op) :: nn5)) (sub_cons (.tail _ (.head _)) (sub_cons (.tail _ (.tail _ (.head _))) (sub_cons (.tail _ (.tail _ (.tail _ (.head _)))) (sub_cons (.head _) fun _ hp => .tail _ (.tail _ (.tail _ (.tail _ (hp))))))))) ⟨⟨Nat.ne_of_gt (lz _ (.head _)), Nat.ne_of_gt (lz _ (.tail _ (.head _))), Nat.ne_of_gt (lz _ (.tail _ (.tail _ (.head _))))⟩, off⟩ (.tail _ hm) ⟨(_, _) :: X, rfl, ?_, rs, dn ++ [q], by rw [es]; simp, hr, ?_⟩
                  · intro p hp
                    rcases List.mem_cons.mp hp with rfl | hp
                    · exact fun q' hq' => lz q' (.tail _ (.tail _ (.tail _ (List.mem_append_right _ hq'))))
                    · exact fr p hp
                  · rw [List.filter_append, List.map_append]
                    refine (hs'.mono fun _ hp => .tail _ hp).append ?_
                    rw [List.filter_cons, hc2]
                    exact .cons (.head _) .nil
                · rename (letter (S.par q.1) == letter kb) = false => hc
                  rw [letter_beq] at hc
                  have hc2 : (S.par q.1 == kb) = false := by simpa using of_decide_eq_false hc
                  refine CTo.mk F5 N5 off hm ⟨X, rfl, fr, rs, dn ++ [q], by rw [es]; simp, hr, ?_⟩
                  rw [List.filter_append, List.filter_cons, hc2]
                  simpa using hs'
            · rintro gg2 zs n ⟨X, rfl, fr, rs, dn, es, hr, hs'⟩ hm
              clear F6 N6
              cases rs with
              | cons q rs => cases hr
              | nil =>
                rw [List.append_nil] at es
                subst es
                repeat' (first | ((with_reducible show wpAny _ _ (binaryOp Operator.Add (Value.ref _) (Value.ref _)) _ _ _); (k_here; refine Hold.out ?_)) | (k_unfold; (try dsimp only)) | (k_end; kc_close) | walk1 | (dsimp only; first | ((with_reducible show wpAny _ _ (binaryOp Operator.Add (Value.ref _) (Value.ref _)) _ _ _); (k_here; refine Hold.out ?_)) | walk1) | (leave1; (try dsimp only)))
                rename Fr _ _ _ _ => F8
                rename News _ _ _ _ => N8
                have e1 := hs.len
                have e2 := hs'.len
                rw [List.length_map] at e1 e2
                have e3 := List.length_filter_le (fun q : Nat × Bool => S.par q.1 != kb) (S.ps.filter (fun q => q.1 != kb))
                have e4 := List.length_filter_le (fun q : Nat × Bool => S.par q.1 == kb) (S.ps.filter (fun q => q.1 != kb))
                refine Hold.mk (kmk_add_lit F8 N8 (News.isList N8 (.tail _ (List.mem_append_right _ (.head _)))) (News.isList N8 (.head _)) (zs := ys ++ zs) (by simp) (fun DW hW FW NW lW => ?_) (by simp; rw [sizeLine_eq]; lia  ))
                clear F8 N8
                k_steps
                rename Fr _ _ _ _ => F9
                rename News _ _ _ _ => N9
                have lA : ∀ q ∈ (D1, LCg.lst ys) :: (I, oI) :: (PA, lstO vsQ eQ) :: (BD, oB2) :: (RD, oR2) :: (L' + 1 + 1 + 1, ol) :: (L' + 1 + 1, oh) :: (L' + 1, op) :: nn5, q.1 < DW := fun q hq => lW q (.tail _ (List.mem_append_right _ hq))
                refine hQQ _ _ ?_
                refine Hold.mk ⟨rfl, fun PP kk => kk _ _ _ DW (ys ++ zs) 0 ((DW, _) :: (X ++ nn5)) rfl F9 (News.sub N9 (sub_cons (.tail _ (.tail _ (List.mem_append_right _ (.tail _ (.head _))))) (sub_cons (.tail _ (.tail _ (List.mem_append_right _ (.tail _ (.tail _ (.head _)))))) (sub_cons (.tail _ (.tail _ (List.mem_append_right _ (.tail _ (.tail _ (.tail _ (.head _))))))) (sub_cons (.tail _ (.tail _ (List.mem_append_right _ (.tail _ (.tail _ (.tail _ (.tail _ (.head _)))))))) (sub_cons (.tail _ (.tail _ (List.mem_append_right _ (.tail _ (.tail _ (.tail _ (.tail _ (.tail _ (.head _))))))))) (sub_cons (.tail _ (.tail _ (List.mem_append_right _ (.tail _ (.tail _ (.tail _ (.tail _ (.tail _ (.tail _ (.head _)))))))))) (sub_cons (.tail _ (.tail _ (List.mem_append_right _ (.tail _ (.tail _ (.tail _ (.tail _ (.tail _ (.tail _ (.tail _ (.head _))))))))))) (sub_cons (.head _) fun p hp => (List.mem_append.mp hp).elim (fun h => .tail _ (.tail _ (List.mem_append_left _ h))) fun h => .tail _ (.tail _ (List.mem_append_right _ (.tail _ (.tail _ (.tail _ (.tail _ (.tail _ (.tail _ (.tail _ (.tail _ (h)))))))))))))))))))) (.head _) ?_ (fun p hp => .tail _ (List.mem_append_right _ hp)) ?_ ?_ ⟨n1, n2, rfl, n4, n5, n6, n7, n8, n9, n10⟩ n11 n12⟩
                · rw [glue_pairs]
                  exact (hs.mono fun _ hp => .tail _ (List.mem_append_right _ hp)).append (hs'.mono fun _ hp => .tail _ (List.mem_append_left _ hp))
                · refine neA (Nat.ne_of_gt (lA _ (.tail _ (.head _)))) fun p hp => ?_
                  rcases List.mem_append.mp hp with hp | hp
                  · exact Nat.ne_of_gt (fr p hp _ (.tail _ (.head _)))
                  · exact nI5 p hp
                · intro p hp
                  rcases List.mem_cons.mp hp with rfl | hp
                  · exact .inr ⟨Nat.ne_of_gt (lA _ (.tail _ (.tail _ (.head _)))), Nat.ne_of_gt (lA _ (.tail _ (.tail _ (.tail _ (.head _))))), Nat.ne_of_gt (lA _ (.tail _ (.tail _ (.tail _ (.tail _ (.head _)))))), Nat.ne_of_gt (lA _ (.tail _ (.tail _ (.tail _ (.tail _ (.tail _ (.head _))))))), Nat.ne_of_gt (lA _ (.tail _ (.tail _ (.tail _ (.tail _ (.tail _ (.tail _ (.head _)))))))), Nat.ne_of_gt (lA _ (.tail _ (.tail _ (.tail _ (.tail _ (.tail _ (.tail _ (.tail _ (.head _)))))))))⟩
                  · rcases List.mem_append.mp hp with hp | hp
                    · exact .inr ⟨Nat.ne_of_gt (fr p hp _ (.tail _ (.tail _ (.head _)))), Nat.ne_of_gt (fr p hp _ (.tail _ (.tail _ (.tail _ (.head _))))), Nat.ne_of_gt (fr p hp _ (.tail _ (.tail _ (.tail _ (.tail _ (.head _)))))), Nat.ne_of_gt (fr p hp _ (.tail _ (.tail _ (.tail _ (.tail _ (.tail _ (.head _))))))), Nat.ne_of_gt (fr p hp _ (.tail _ (.tail _ (.tail _ (.tail _ (.tail _ (.tail _ (.head _)))))))), Nat.ne_of_gt (fr p hp _ (.tail _ (.tail _ (.tail _ (.tail _ (.tail _ (.tail _ (.tail _ (.head _)))))))))⟩
                    · exact .inl hp
        --]CC
      clear F1 N1 n1 n2 n3 n4 n5 n6 n7 n8 n9 n10 n11 n12 pV mDV
      intro s' hPP
      refine hPP _ ?_
      clear hPP
      rintro h' tk m' DV vsV eV nn6 rfl F1 N1 mDV pV s6 nI6 fx6 ⟨n1, n2, n3, n4, n5, n6, n7, n8, n9, n10⟩ n11 n12
      have G2 : Good d wt b (S.glue kb) := gi.G.glue hkb fun q hq => (best_is (gi.R.dur bd (.inr hkb)).1 (gi.R.dur bd (.inr hkb)).2 (gi.R.dur bd (.inr hq)).1 (gi.R.dur bd (.inr hq)).2 (hah q hq) hd1).1
      have R2 : Rowy (S.glue kb) := gi.R.glue gi.G hkb
      have okG := okP_pairs G2.lt5
      have plQ6 : PL ((I, oI) :: (PA, lstO vsQ eQ) :: (BD, oB2) :: (RD, oR2) :: (L' + 1 + 1 + 1, ol) :: (L' + 1 + 1, oh) :: (L' + 1, op) :: nn6) vsQ (pairsT (S.glue kb)) := pQ.mono fun p hp => .tail _ (.tail _ (.tail _ (.tail _ (.tail _ (.tail _ (.tail _ (s6 _ (s5 _ hp))))))))
      have plV6 : PL ((I, oI) :: (PA, lstO vsQ eQ) :: (BD, oB2) :: (RD, oR2) :: (L' + 1 + 1 + 1, ol) :: (L' + 1 + 1, oh) :: (L' + 1, op) :: nn6) vsV (pairsT (S.glue kb)) := pV.mono fun p hp => .tail _ (.tail _ (.tail _ (.tail _ (.tail _ (.tail _ (.tail _ (hp)))))))
      have qlen : vsQ.length ≤ 1000 := by have e1 := pQ.len; have e2 := pV.len; have e3 := G2.nd; have e4 := nodup_le 5 _ G2.nd (fun k hk => (G2.lt k hk).2); unfold pairsT at e1; rw [List.length_map] at e1 e4; lia  
      refine exec_join (fun s' => ∀ PP : Prop, (∀ h' tk m', (s' = { s with heap := h', toks := tk, drawn := dr }) → (Fr g' L' h' m') → (News g' L' h' ((I, oI) :: (PA, lstO vsQ eQ) :: (BD, oB2) :: (RD, oR2) :: (L' + 1 + 1 + 1, ol) :: (L' + 1 + 1, oh) :: (L' + 1, op) :: nn6)) → (Nm m' OX H DV RD BD PA KL gr lo tg tl tL) → PP) → PP) ?_ ?_
      · refine opq ?_
        intro QQ EE hQQ
        --[CD
        have hMark : True ∧ True ∧ True := ⟨trivial, trivial, trivial⟩
        have mPA6 : (PA, lstO vsQ eQ) ∈ (I, oI) :: (PA, lstO vsQ eQ) :: (BD, oB2) :: (RD, oR2) :: (L' + 1 + 1 + 1, ol) :: (L' + 1 + 1, oh) :: (L' + 1, op) :: nn6 := .tail _ (.head _)
        have mDV6 : (DV, lstO vsV eV) ∈ (I, oI) :: (PA, lstO vsQ eQ) :: (BD, oB2) :: (RD, oR2) :: (L' + 1 + 1 + 1, ol) :: (L' + 1 + 1, oh) :: (L' + 1, op) :: nn6 := .tail _ (.tail _ (.tail _ (.tail _ (.tail _ (.tail _ (.tail _ (mDV)))))))
        have mH6 : (H, instObj 276 D) ∈ (I, oI) :: (PA, lstO vsQ eQ) :: (BD, oB2) :: (RD, oR2) :: (L' + 1 + 1 + 1, ol) :: (L' + 1 + 1, oh) :: (L' + 1, op) :: nn6 := .tail _ (.tail _ (.tail _ (.tail _ (.tail _ (.tail _ (.tail _ (s6 _ (s5 _ (s4 _ gi3.mH)))))))))
        have mD6 : (D, hdD w PA tH) ∈ (I, oI) :: (PA, lstO vsQ eQ) :: (BD, oB2) :: (RD, oR2) :: (L' + 1 + 1 + 1, ol) :: (L' + 1 + 1, oh) :: (L' + 1, op) :: nn6 := .tail _ (.tail _ (.tail _ (.tail _ (.tail _ (.tail _ (.tail _ (s6 _ (s5 _ (s4 _ gi3.mD)))))))))
        have mTh6 : (Th, tupO [.int ((S.row (S.par kb)).length : Int) th1, .int (durL d (S.row (S.par kb))) th2, .int (durL wt (S.row (S.par kb))) th3, .int (costF d wt 0 (S.row (S.par kb))) th4, .ref Dh]) ∈ (I, oI) :: (PA, lstO vsQ eQ) :: (BD, oB2) :: (RD, oR2) :: (L' + 1 + 1 + 1, ol) :: (L' + 1 + 1, oh) :: (L' + 1, op) :: nn6 := .tail _ (.tail _ (.tail _ (.tail _ (.tail _ (.tail _ (.tail _ (s6 _ (s5 _ (s4 _ (s3 _ (s2 _ (s1 _ mTh))))))))))))
        have mDh6 : (Dh, oDh) ∈ (I, oI) :: (PA, lstO vsQ eQ) :: (BD, oB2) :: (RD, oR2) :: (L' + 1 + 1 + 1, ol) :: (L' + 1 + 1, oh) :: (L' + 1, op) :: nn6 := .tail _ (.tail _ (.tail _ (.tail _ (.tail _ (.tail _ (.tail _ (s6 _ (s5 _ (s4 _ (s3 _ (s2 _ (s1 _ mDh))))))))))))
        have hcl : (untilF d 0 (S.row (S.par kb))).length ≤ 1000 := by rw [untilF_len]; lia  
        repeat' (first | ((with_reducible show wpAny _ _ (compareOp CmpOp.NotEq (Value.ref _) (Value.ref _)) _ _ _); (k_here; (with_reducible rename True ∧ True ∧ True => hMarkq'); refine Hold.out ?_)) | (k_unfold; (try dsimp only)) | (k_end; kc_close) | walk1 | (dsimp only; first | ((with_reducible show wpAny _ _ (compareOp CmpOp.NotEq (Value.ref _) (Value.ref _)) _ _ _); (k_here; (with_reducible rename True ∧ True ∧ True => hMarkq'); refine Hold.out ?_)) | walk1) | (leave1; (try dsimp only)))
        rename Fr _ _ _ _ => F3
        rename News _ _ _ _ => N3
        refine Hold.mk (ne_PL N3 mPA6 plQ6 mDV6 plV6 okG (by show un + 3 + 64 < cLine; lia  ) ?_)
        repeat' (first | ((with_reducible show wpAny _ _ (eval (Expr.ListComp _ _ _ _) _) _ _ _); (k_here; first | ((with_reducible show wpAny _ _ (eval (Expr.ListComp _ [⟨Expr.Name _ _, _, [], _⟩] _ _) _) _ _ _); k_dflt (refine LCg.ListComp_U (F₀ := by k_asm) (by with_unfolding_all rfl) (by decide) (by rfl) (by decide) (by rfl) ?_)) | ((with_reducible show wpAny _ _ (eval (Expr.ListComp _ [⟨Expr.Name _ _, _, [_], _⟩] _ _) _) _ _ _); k_dflt (refine LCt.ListComp_T (F₀ := by k_asm) (by with_unfolding_all rfl) (by decide) (by rfl) (by decide) (by rfl) ?_)))) | ((with_reducible show wpAny _ _ (PySem.call (Value.ref _) _ _) _ _ _); (k_here; (with_reducible show wpAny _ _ (call (Value.ref 228) _ _) _ _ _); k_dflt (refine keys_c (by k_asm) (by with_reducible assumption) (by k_asm) (by with_reducible assumption) (by k_asm) rfl (by first | exact rmN (k := 6) hd rfl | exact rmN (k := 11) hd rfl | exact rmN (k := 16) hd rfl | exact rmN (k := 21) hd rfl | exact rmN (k := 26) hd rfl | ((try dsimp only [ktrTop]); omega)) (by first | exact rmN (k := 43) hu rfl | exact rmN (k := 83) hu rfl | exact rmN (k := 123) hu rfl | exact rmN (k := 163) hu rfl | ((try dsimp only [ktrTop]); omega)) (by first | with_reducible assumption | assumption) (by first | with_reducible assumption | assumption) (by first | with_reducible assumption | assumption) (by first | with_reducible assumption | assumption) (by first | with_reducible assumption | assumption) ?_); intro _ _ _ _ _ _ _ _)) | ((with_reducible show LCg.CompSrc _ _ _ _ _ _ _ _ _ _ _ _ _ _ ); refine Hold.out ?_) | (k_unfold; (try dsimp only)) | (k_end; kc_close) | walk1 | (dsimp only; first | ((with_reducible show wpAny _ _ (eval (Expr.ListComp _ _ _ _) _) _ _ _); (k_here; first | ((with_reducible show wpAny _ _ (eval (Expr.ListComp _ [⟨Expr.Name _ _, _, [], _⟩] _ _) _) _ _ _); k_dflt (refine LCg.ListComp_U (F₀ := by k_asm) (by with_unfolding_all rfl) (by decide) (by rfl) (by decide) (by rfl) ?_)) | ((with_reducible show wpAny _ _ (eval (Expr.ListComp _ [⟨Expr.Name _ _, _, [_], _⟩] _ _) _) _ _ _); k_dflt (refine LCt.ListComp_T (F₀ := by k_asm) (by with_unfolding_all rfl) (by decide) (by rfl) (by decide) (by rfl) ?_)))) | ((with_reducible show wpAny _ _ (PySem.call (Value.ref _) _ _) _ _ _); (k_here; (with_reducible show wpAny _ _ (call (Value.ref 228) _ _) _ _ _); k_dflt (refine keys_c (by k_asm) (by with_reducible assumption) (by k_asm) (by with_reducible assumption) (by k_asm) rfl (by first | exact rmN (k := 6) hd rfl | exact rmN (k := 11) hd rfl | exact rmN (k := 16) hd rfl | exact rmN (k := 21) hd rfl | exact rmN (k := 26) hd rfl | ((try dsimp only [ktrTop]); omega)) (by first | exact rmN (k := 43) hu rfl | exact rmN (k := 83) hu rfl | exact rmN (k := 123) hu rfl | exact rmN (k := 163) hu rfl | ((try dsimp only [ktrTop]); omega)) (by first | with_reducible assumption | assumption) (by first | with_reducible assumption | assumption) (by first | with_reducible assumption | assumption) (by first | with_reducible assumption | assumption) (by first | with_reducible assumption | assumption) ?_); intro _ _ _ _ _ _ _ _)) | ((with_reducible show LCg.CompSrc _ _ _ _ _ _ _ _ _ _ _ _ _ _ ); refine Hold.out ?_) | walk1) | (leave1; (try dsimp only)))
        clear F3 N3
        rename Fr _ _ _ _ => F4
        rename News _ _ _ _ => N4
        rename SL _ _ => sK
        rename List Value => ysK
        rename_i rK hK kK lK
        refine Hold.mk (src_U (fun rem zs n => n = (rK, LCg.lst ysK) :: (I, oI) :: (PA, lstO vsQ eQ) :: (BD, oB2) :: (RD, oR2) :: (L' + 1 + 1 + 1, ol) :: (L' + 1 + 1, oh) :: (L' + 1, op) :: nn6 ∧ ∃ dl rl, pairsT (S.glue kb) = dl ++ rl ∧ PL nn6 rem rl ∧ SL zs (dl.map (·.1))) rfl F4 N4 (.tail _ mDV6) (by have e1 := pV.len; have e2 := pQ.len; rw [sizeLine_eq]; lia  ) ⟨rfl, [], _, rfl, pV, .nil⟩ ?_ ?_)
        · rintro s' ⟨gg, rfl⟩ v r zs n I5 oI5 C5 oC5 D5 m₂ h tk E' ⟨rfl, dl, rl, es, hr, hs⟩ hm hC hx F5 N5 off ne
          clear F4 N4
          cases hr with | @cons a' k' v' tk' tv _ rl ha hr =>
          have ha' : (a', tupO [.str k' tk', .str v' tv]) ∈ (I5, oI5) :: (C5, oC5) :: (D5, LCg.lst zs) :: (rK, LCg.lst ysK) :: (I, oI) :: (PA, lstO vsQ eQ) :: (BD, oB2) :: (RD, oR2) :: (L' + 1 + 1 + 1, ol) :: (L' + 1 + 1, oh) :: (L' + 1, op) :: nn6 := .tail _ (.tail _ (.tail _ (.tail _ (.tail _ (.tail _ (.tail _ (.tail _ (.tail _ (.tail _ (.tail _ (ha)))))))))))
          k_steps
          rename Fr _ _ _ _ => F6
          rename News _ _ _ _ => N6
          exact CTo.mk F6 N6 off hm ⟨rfl, dl ++ [(k', v')], rl, by rw [es]; simp, hr, by rw [List.map_append]; exact hs.snoc⟩
        · rintro gg zs n ⟨rfl, dl, rl, es, hr, hs⟩ hm
          clear F4 N4
          cases hr
          rw [List.append_nil] at es
          subst es
          repeat' (first | ((with_reducible show wpAny _ _ (compareOp CmpOp.NotEq (Value.ref _) (Value.ref _)) _ _ _); (k_here; (with_reducible rename True ∧ True ∧ True => hMarkq'); refine Hold.out ?_)) | (k_unfold; (try dsimp only)) | (k_end; kc_close) | walk1 | (dsimp only; first | ((with_reducible show wpAny _ _ (compareOp CmpOp.NotEq (Value.ref _) (Value.ref _)) _ _ _); (k_here; (with_reducible rename True ∧ True ∧ True => hMarkq'); refine Hold.out ?_)) | walk1) | (leave1; (try dsimp only)))
          rename Fr _ _ _ _ => F5
          rename News _ _ _ _ => N5
          refine Hold.mk (ne_same N5 (.tail _ (.head _)) sK.dat (.head _) hs.dat (strs_ok okG) (by show un + 3 + 64 < cLine; lia  ) ?_)
          repeat' (first | ((with_reducible show wpAny _ _ (compareOp CmpOp.NotEq (Value.ref _) (Value.ref _)) _ _ _); (k_here; (with_reducible rename True ∧ True ∧ True => hMarkq'); refine Hold.out ?_)) | ((with_reducible show wpAny _ _ (PySem.call (Value.type "list") _ _) _ _ _); (k_here; (with_reducible show wpAny _ _ (call (Value.type _) [Value.ref _]) _ _ _); k_dflt (refine list_items rfl (by with_reducible assumption) (by with_reducible assumption) (by first | exact List.Mem.head _ | k_mem) (by first | with_reducible assumption | exact List.Mem.tail _ (by first | with_reducible assumption | assumption) | exact List.Mem.tail _ (List.Mem.tail _ (List.Mem.tail _ (by first | with_reducible assumption | assumption)))) (by with_reducible assumption) (by with_reducible assumption) (by with_reducible assumption) ?_); intro _ _ _ _ _ _ _ _ _ _ _)) | ((with_reducible show wpAny _ _ (PySem.call (Value.builtin "dict.items") _ _) _ _ _); (k_here; k_dflt (refine kdx_view (by with_reducible assumption) (by with_reducible assumption) (by k_mem) (by with_reducible assumption) (by with_reducible assumption) ?_); intro _ _ _ _ _)) | ((k_here; (with_reducible show wpAny _ _ (getMethod (Value.ref _) (PySem.Str.ofString "items") _) _ _ _); k_dflt (refine kdl_method (knd := PySem.strKind _ _) PySem.F.slot_dict_items PySem.F.type_dict_items (by with_reducible assumption) (by k_mem) (by with_reducible assumption) ?_))) | (k_unfold; (try dsimp only)) | (k_end; kc_close) | walk1 | (dsimp only; first | ((with_reducible show wpAny _ _ (compareOp CmpOp.NotEq (Value.ref _) (Value.ref _)) _ _ _); (k_here; (with_reducible rename True ∧ True ∧ True => hMarkq'); refine Hold.out ?_)) | ((with_reducible show wpAny _ _ (PySem.call (Value.type "list") _ _) _ _ _); (k_here; (with_reducible show wpAny _ _ (call (Value.type _) [Value.ref _]) _ _ _); k_dflt (refine list_items rfl (by with_reducible assumption) (by with_reducible assumption) (by first | exact List.Mem.head _ | k_mem) (by first | with_reducible assumption | exact List.Mem.tail _ (by first | with_reducible assumption | assumption) | exact List.Mem.tail _ (List.Mem.tail _ (List.Mem.tail _ (by first | with_reducible assumption | assumption)))) (by with_reducible assumption) (by with_reducible assumption) (by with_reducible assumption) ?_); intro _ _ _ _ _ _ _ _ _ _ _)) | ((with_reducible show wpAny _ _ (PySem.call (Value.builtin "dict.items") _ _) _ _ _); (k_here; k_dflt (refine kdx_view (by with_reducible assumption) (by with_reducible assumption) (by k_mem) (by with_reducible assumption) (by with_reducible assumption) ?_); intro _ _ _ _ _)) | ((k_here; (with_reducible show wpAny _ _ (getMethod (Value.ref _) (PySem.Str.ofString "items") _) _ _ _); k_dflt (refine kdl_method (knd := PySem.strKind _ _) PySem.F.slot_dict_items PySem.F.type_dict_items (by with_reducible assumption) (by k_mem) (by with_reducible assumption) ?_))) | walk1) | (leave1; (try dsimp only)))
          clear F5 N5
          rename Fr _ _ _ _ => F7
          rename News _ _ _ _ => N7
          rename DatAll _ _ _ => hdat
          refine Hold.mk (ne_same N7 (List.mem_append_right _ (.head _)) (hdat.mono fun _ hp => List.mem_append_left _ hp) (List.mem_append_right _ (.tail _ (.tail _ (.tail _ (.tail _ (.tail _ (.tail _ (.tail _ (.tail _ (.tail _ (.tail _ (.tail _ (s6 _ (s5 _ (s4 _ (s3 _ (s2 _ mKE))))))))))))))))) (datK.mono fun _ hp => List.mem_append_right _ (.tail _ (.tail _ (.tail _ (.tail _ (.tail _ (.tail _ (.tail _ (.tail _ (.tail _ (.tail _ (.tail _ (s6 _ (s5 _ (s4 _ (s3 _ (s2 _ hp))))))))))))))))) (intD_ok (gi.R.lt _ hal) 0) (by show un + 3 + 64 < cLine; lia  ) ?_)
          k_steps
          rename Fr _ _ _ _ => F8
          rename News _ _ _ _ => N8
          refine hQQ _ _ ?_
          exact Hold.mk ⟨rfl, fun PP kk => kk _ _ _ rfl F8 (News.sub N8 (fun _ hp => List.mem_append_right _ (.tail _ (.tail _ (.tail _ (.tail _ (hp))))))) ⟨n1, n2, n3, n4, n5, n6, n7, n8, n9, n10⟩⟩
        --]CD
      clear F1 N1 n1 n2 n3 n4 n5 n6 n7 n8 n9 n10 n11 n12
      intro s' hPP
      refine hPP _ ?_
      clear hPP
      rintro h' tk m' rfl F1 N1 nm
      have gi6 := (gi4.mono s5 fx5).mono s6 fx6
      k_steps
      refine hQT _ _ ?_
      exact ⟨_, _, _, _, _, rfl, F1, N1, neA zIP.symm (neA zIB.symm (neA zIR.symm (neA zI3.symm (neA zI2.symm (neA zI1.symm nI6))))), tL, S.glue kb, oB2, oR2, vsQ, eQ, DV, ol, oh, op, _, _, _, nn6, hol, hoh, hop, rfl, nm,
        { G := G2, R := R2, len := by have e1 := gi.len; have e2 := glue_len gi.G.nd G2.nd hkb; lia  , dB := ⟨kB2, dB2, tabB2.mono fun _ _ _ h => h.mono fun _ hp => s6 _ (s5 _ (s4 _ hp))⟩, dR := ⟨kR2, dR2, tabR2⟩, plP := pQ.mono fun _ hp => s6 _ (s5 _ hp), du := ⟨vsV, eV, mDV, pV⟩,
          mH := gi6.mH, mD := gi6.mD, mX := gi6.mX, mO := gi6.mO, mN := gi6.mN, f1 := gi6.f1, f2 := gi6.f2, f3 := gi6.f3, f4 := gi6.f4, f5 := gi6.f5, f6 := gi6.f6 }⟩
    · rintro m₁ n₁ h tk dr ⟨tL, S, oB, oR, vsP, eP, DU, o1, o2, o3, x1, x2, x3, nn, c1, c2, c3, rfl, nm, gi⟩ F4 N4
      clear F3 hR
      k_steps
      refine hQQ _ _ ?_
      exact Hold.mk ⟨rfl, fun PP kk => kk _ _ _ _ tL S oB oR vsP eP DU o1 o2 o3 nn rfl F4 N4 nm gi⟩
  clear F1 N1 nm gi0
  intro s' hPP
  refine hPP _ ?_
  clear hPP
  rintro h' tk dr m' tL S oB oR vsP eP DU o1 o2 o3 nn rfl F1 N1 ⟨n1, n2, n3, n4, n5, n6, n7, n8, n9, n10⟩ gi
  obtain ⟨kB, dB, tabB⟩ := gi.dB
  obtain ⟨kR, dR, tabR⟩ := gi.dR
  obtain ⟨vB, hvB, blk⟩ := tabB.2 0 (by decide)
  obtain ⟨vR, hvR, tR, rfl⟩ := tabR.2 0 (by decide)
  have hvB' : valueAt kB (Str.ofString "a") = some vB := hvB
  have hvR' : valueAt kR (Str.ofString "a") = some (.str (rowStr (S.row 0)) tR) := hvR
  have mBD : (BD, oB) ∈ (PA, lstO vsP eP) :: (BD, oB) :: (RD, oR) :: (L' + 1 + 1 + 1, o1) :: (L' + 1 + 1, o2) :: (L' + 1, o3) :: nn := .tail _ (.head _)
  have mRD : (RD, oR) ∈ (PA, lstO vsP eP) :: (BD, oB) :: (RD, oR) :: (L' + 1 + 1 + 1, o1) :: (L' + 1 + 1, o2) :: (L' + 1, o3) :: nn := .tail _ (.tail _ (.head _))
  repeat' (first | ((with_reducible show wpAny _ _ (newTuple _) _ _ _); (k_here; k_dflt (refine kup_newTuple (by k_asm) (by k_asm) ?_ (by kmk_size)); intro _ _ _ _ _)) | ((with_reducible show wpAny _ _ (subscriptTail _ _ _ _) _ _ _); (k_here; (with_reducible show wpAny _ _ (subscriptTail _ _ (Value.ref _) (Value.str _ _)) _ _ _); k_dflt (refine kda_item (knd := PySem.strKind _ _) (by with_reducible assumption) (by k_mem) (by with_reducible assumption) (strKind_is _ _ _ _) (by with_reducible assumption) ?_))) | (k_unfold; (try dsimp only)) | (k_end; kc_close) | walk1 | (dsimp only; first | ((with_reducible show wpAny _ _ (newTuple _) _ _ _); (k_here; k_dflt (refine kup_newTuple (by k_asm) (by k_asm) ?_ (by kmk_size)); intro _ _ _ _ _)) | ((with_reducible show wpAny _ _ (subscriptTail _ _ _ _) _ _ _); (k_here; (with_reducible show wpAny _ _ (subscriptTail _ _ (Value.ref _) (Value.str _ _)) _ _ _); k_dflt (refine kda_item (knd := PySem.strKind _ _) (by with_reducible assumption) (by k_mem) (by with_reducible assumption) (strKind_is _ _ _ _) (by with_reducible assumption) ?_))) | walk1) | (leave1; (try dsimp only)))
  rename Fr _ _ _ _ => F6
  rename News _ _ _ _ => N6
  rename ∀ p : Addr × Obj, p ∈ _ → p.1 < _ => lz
  exact ret S _ _ _ _ _ _ _ gi.G (List.eq_nil_of_length_eq_zero (by have := gi.len; lia  )) F6 N6 (fun p hp => .tail _ (.tail _ (.tail _ (.tail _ (.tail _ (.tail _ (gi.mN p hp))))))) lz (blk.mono fun p hp => .tail _ (.tail _ (.tail _ (.tail _ (.tail _ (.tail _ (hp)))))))
end Mine

end
section -- W23
theorem Mine.off_W23 : True := by w_top off; trivial
open PySem PySem.W PyProof.Rows
set_option maxRecDepth 100000
namespace Mine
variable {w : World} {p : Program} {loose : List Str} {mean : ExcName → Option Value} {mg mb : Str → Option Value} {dp un : Nat} {gd : Option (List Code)} {cn : Str} {cs : Scope} {a : Addr} {ccd : Value} {cl : List (Str × Addr)} {outer : List Env} {A₀ : Around} {base h₀ : Heap} {L : Addr} {m : Str → Option Value} {news : List (Addr × Obj)} {s : Shared} {Q E : Value → Shared → Prop}
set_option maxHeartbeats 8000000 in
theorem blocks1_c (B : Below A₀ base outer h₀) (F : Fr h₀ L s.heap m) (X : (hd.heap_1 w.params).In h₀) {ps0 : Array Value} (N : News h₀ L s.heap ((90, tabObj ps0) :: news)) (tb : TB ps0 news) (h90 : ∀ p ∈ news, p.1 ≠ 90) (CH : CodeHd base 94 90) (T : Top p loose mean mg mb h₀) (hk : cs.kind = .function) (hd : dp + 40 < recursionLimit) (hu : un + 300 < cLine)
  {JL : Addr} {d wt : Nat → Int} {b : Nat → Nat} (JA : JobsAt news JL d wt b) (bd : ∀ k < 5, 1 ≤ d k ∧ d k ≤ 7) (bw : ∀ k < 5, 0 ≤ wt k ∧ wt k ≤ 19)
  (ret : ∀ BD o kB ps n1 h' tk' dr, Fr h₀ L h' m → News h₀ L h' ((BD, o) :: (90, tabObj ps) :: n1) → o.IsDictOf (KD w) kB → TabK kB 5 (fun k v => BlkAt w n1 d wt [k] v) → (∀ p ∈ news, p ∈ n1) → (∀ p ∈ n1, p.1 ≠ 90) → (∀ p ∈ n1, p.1 ≠ BD) → (BD == sysModules) = false → BD ≠ 90 → Q (.ref BD) {s with heap := h', toks := tk', drawn := dr}) :
  wpAny (model PySem.Challenge.rw_wy0045_01.row.prog w) (ktrTop dp un gd cn cs L a ccd cl outer) (call (.ref 285) [.ref JL]) Q E s := by
  refine wpAny_call ?_
  k_dflt (refine' code_defC ?k1 ?k2 ?k3 ?k4 ?k5 ?kA ?kF ?kK ?k6 ?k7 ?k8 ?k9 ?kB ?kD ?_ ?c2 ?c3 ?c4; (case kA => exact rfl); (case kF => exact rfl); (case kK => first | assumption | exact rfl); (case k1 => k_asm); (case k2 => k_asm); (case k3 => k_asm); (case k4 => k_asm); (case k5 => k_asm); (case k6 => k_is); (case k7 => k_is); (case k8 => ktr_room); (case k9 => first | exact BindsTo.of_eq rfl | exact binds_K (by k_in) rfl (by k_is) rfl rfl rfl); (case kB => exact rfl); (case kD => decide +kernel); (case c2 => exact rfl); (case c3 => exact rfl); (case c4 => exact rfl); k_whole; intro g' L' h1' tk1 cells' FG' F' N' Y' B' X' T' l1; k_cells Y'; (try simp only [List.cons_append, List.nil_append] at N'); (try dsimp only); (try k_fold))
  rename_i oc0 d0
  have l90 : (90 : Addr) < L' := l1 (90, _) (.head _)
  have l90' : (90 : Addr) < L' + 1 := Nat.lt_succ_of_lt l90
  k_lt2 l90
  have al1 : ∀ p ∈ news, p.1 ≠ L' + 1 := fun p hp => Nat.ne_of_lt (Nat.lt_add_right 1 (l1 p (.tail _ hp)))
  refine exec_split 2 (fun s' => ∀ PP : Prop, (∀ h' tk m' H D l l2 t, (s' = { s with heap := h', toks := tk }) → (Fr g' L' h' m') → (News g' L' h' ((l2, lstO [] 0) :: (l, lstO [] 0) :: (H, instObj 276 D) :: (D, hdD w l t) :: (L' + 1, oc0) :: (90, tabObj ps0) :: news)) → (L' + 1 < D) → (D < H) → (H < l) → (l < l2) → (m' (Str.ofString "book") = some (.ref H)) → (m' (Str.ofString "laid") = some (.ref l2)) → (m' (Str.ofString "jobs") = some (.ref JL)) → PP) → PP) ?_ ?_
  · refine opq ?_
    intro QQ EE hQQ
    dsimp only [List.take]
    repeat' (first | ((with_reducible show wpAny _ _ (PySem.call (Value.ref _) _ _) _ _ _); (k_here; (with_reducible show wpAny _ _ (call (Value.ref 276) _ _) _ _ _); k_dflt (refine headers0_c (by k_asm) (by with_reducible assumption) (by k_asm) (by with_reducible assumption) (by k_asm) rfl (by first | exact rmN (k := 6) hd rfl | exact rmN (k := 11) hd rfl | exact rmN (k := 16) hd rfl | exact rmN (k := 21) hd rfl | exact rmN (k := 26) hd rfl | ((try dsimp only [ktrTop]); omega)) (by first | exact rmN (k := 43) hu rfl | exact rmN (k := 83) hu rfl | exact rmN (k := 123) hu rfl | exact rmN (k := 163) hu rfl | ((try dsimp only [ktrTop]); omega)) ?_); intro _ _ _ _ _ _ _ _ _ _ _)) | (k_unfold; (try dsimp only)) | (k_end; kc_close) | walk1 | (dsimp only; first | ((with_reducible show wpAny _ _ (PySem.call (Value.ref _) _ _) _ _ _); (k_here; (with_reducible show wpAny _ _ (call (Value.ref 276) _ _) _ _ _); k_dflt (refine headers0_c (by k_asm) (by with_reducible assumption) (by k_asm) (by with_reducible assumption) (by k_asm) rfl (by first | exact rmN (k := 6) hd rfl | exact rmN (k := 11) hd rfl | exact rmN (k := 16) hd rfl | exact rmN (k := 21) hd rfl | exact rmN (k := 26) hd rfl | ((try dsimp only [ktrTop]); omega)) (by first | exact rmN (k := 43) hu rfl | exact rmN (k := 83) hu rfl | exact rmN (k := 123) hu rfl | exact rmN (k := 163) hu rfl | ((try dsimp only [ktrTop]); omega)) ?_); intro _ _ _ _ _ _ _ _ _ _ _)) | walk1) | (leave1; (try dsimp only)))
    rename Fr _ _ _ _ => F3
    rename News _ _ _ _ => N3
    rename _ ∧ _ => l3
    rename ∀ p ∈ (L' + 1, oc0) :: (90, tabObj ps0) :: news, p.1 < _ => lD
    refine hQQ _ _ ?_
    exact Hold.mk ⟨rfl, fun PP kk => kk _ _ _ _ _ _ _ _ rfl F3 N3 (lD (L' + 1, oc0) (.head _)) (by assumption) (by assumption) l3.1 rfl rfl rfl⟩
  clear F' N'
  dsimp only [List.drop]
  intro s' hPP
  refine hPP _ ?_
  clear hPP
  rintro h' tk m' H D l l2 t rfl F1 N1 o1 o2 o3 o4 q1 q2 q3
  k_lt2 o1
  k_lt2 o2
  k_lt2 o3
  k_lt2 o4
  have lnews : ∀ p ∈ (90, tabObj ps0) :: news, p.1 < D := fun p hp => Nat.lt_trans (Nat.lt_of_lt_of_le (l1 p hp) (Nat.le_succ _)) o1
  have dn : ∀ k < 5, OkS (numS (d k).toNat (k % 3)) ∧ OkS (numS (wt k).toNat (k % 3)) ∧ (numS (d k).toNat (k % 3)).length < 1000 ∧ (numS (wt k).toNat (k % 3)).length < 1000 ∧ ((numS (d k).toNat (k % 3)).length : Int) > 0 ∧ NoOcc (numS (d k).toNat (k % 3)) (Str.ofString "\\") ∧ NoOcc (numS (d k).toNat (k % 3)) (Str.ofString "\"") := fun k hk => by
    have b1 := bd k hk
    have b2 := bw k hk
    have e1 : (d k).toNat < 20 := by lia  
    have e2 : (wt k).toNat < 20 := by lia  
    have e3 : k % 3 < 3 := Nat.mod_lt _ (by decide)
    exact ⟨okS_num e1 e3, okS_num e2 e3, numS_len _ e1 _ e3, numS_len _ e2 _ e3, Int.ofNat_lt.mpr (numS_pos _ e1 _ e3), numS_bs _ e1 _ e3, numS_qu _ e1 _ e3⟩
  refine exec_join (fun s' => ∀ PP : Prop, (∀ h' tk dr m' us vs e1 e2 nn, (s' = { s with heap := h', toks := tk, drawn := dr }) → (Fr g' L' h' m') → (News g' L' h' ((l2, lstO us e2) :: (l, lstO vs e1) :: nn)) → (PL nn us (hdrs d wt 5)) → (PL nn vs (hdrs d wt 5)) → ((H, instObj 276 D) ∈ nn) → ((D, hdD w l t) ∈ nn) → (∀ p ∈ (90, tabObj ps0) :: news, p ∈ nn) → (∀ p ∈ nn, p.1 ≠ l2) → (∀ p ∈ nn, p.1 ≠ l) → (m' (Str.ofString "book") = some (.ref H)) → (m' (Str.ofString "laid") = some (.ref l2)) → (m' (Str.ofString "jobs") = some (.ref JL)) → PP) → PP) ?_ ?_
  · refine opqQ ?_
    intro QQ hQQ
    refine For_D ?_
    k_steps
    rename IsRange _ _ _ _ _ _ _ _ => hR
    rename Fr _ _ _ _ => F3
    rename News _ _ _ _ => N3
    refine range_D (n := 5) (fun i m₁ n₁ => ∃ us vs e1 e2 oc cv nn, oc.data = .cell cv ∧ n₁ = (l2, lstO us e2) :: (l, lstO vs e1) :: (L' + 1, oc) :: nn ∧ PL nn us (hdrs d wt i) ∧ PL nn vs (hdrs d wt i) ∧ (H, instObj 276 D) ∈ nn ∧ (D, hdD w l t) ∈ nn ∧ (∀ p ∈ (90, tabObj ps0) :: news, p ∈ nn) ∧
      (∀ p ∈ nn, p.1 ≠ l2) ∧ (∀ p ∈ nn, p.1 ≠ l) ∧ (∀ p ∈ nn, p.1 ≠ L' + 1) ∧
      m₁ (Str.ofString "book") = some (.ref H) ∧ m₁ (Str.ofString "laid") = some (.ref l2) ∧ m₁ (Str.ofString "jobs") = some (.ref JL)) rfl hR (by decide) (by decide) F3 (News.sub N3 (n := (l2, lstO [] 0) :: (l, lstO [] 0) :: (L' + 1, oc0) :: (H, instObj 276 D) :: (D, hdD w l t) :: (90, tabObj ps0) :: news) (sub_cons (.head _) (sub_cons (.tail _ (.head _)) (sub_cons (.tail _ (.tail _ (.tail _ (.tail _ (.head _))))) (sub_cons (.tail _ (.tail _ (.head _))) (sub_cons (.tail _ (.tail _ (.tail _ (.head _)))) fun _ hp => .tail _ (.tail _ (.tail _ (.tail _ (.tail _ (hp))))))))))) ?_ ?_ ?_
    · refine ⟨[], [], _, _, _, _, _, d0, rfl, .nil, .nil, .head _, .tail _ (.head _), fun p hp => .tail _ (.tail _ hp), ?_, ?_, ?_, q1, q2, q3⟩
      · exact neA (Nat.ne_of_lt (Nat.lt_trans o3 o4)) (neA (Nat.ne_of_lt (Nat.lt_trans o2 (Nat.lt_trans o3 o4))) fun p hp => Nat.ne_of_lt (Nat.lt_trans (lnews p hp) (Nat.lt_trans o2 (Nat.lt_trans o3 o4))))
      · exact neA (Nat.ne_of_lt o3) (neA (Nat.ne_of_lt (Nat.lt_trans o2 o3)) fun p hp => Nat.ne_of_lt (Nat.lt_trans (lnews p hp) (Nat.lt_trans o2 o3)))
      · exact neA (Nat.ne_of_gt (Nat.lt_trans o1 o2)) (neA (Nat.ne_of_gt o1) fun p hp => Nat.ne_of_lt (Nat.lt_of_lt_of_le (l1 p hp) (Nat.le_succ _)))
    · clear F3 N3 hR q1 q2 q3
      rintro I i u m₁ n₁ oI h tk dr hi ⟨us, vs, e1, e2, oc, cv, nn, dc, rfl, plu, plv, mH, mD, mN, f1, f2, f3, q1, q2, q3⟩ hI F1 N1
      obtain ⟨vsj, epj, tj, ml, hvj, hvl, u1, u2, u3, mt⟩ := JA.get hi
      have mll := mN _ (.tail _ ml)
      have mtt := mN _ (.tail _ mt)
      have ml' : (JL, lstO vsj epj) ∈ (I, oI) :: (l2, lstO us e2) :: (l, lstO vs e1) :: (L' + 1, oc) :: nn := .tail _ (.tail _ (.tail _ (.tail _ mll)))
      have hI1 : I ≠ L' + 1 := fun e => hI (L' + 1, oc) (.tail _ (.tail _ (.head _))) e.symm
      have hI2 : I ≠ l2 := fun e => hI (l2, _) (.head _) e.symm
      have hI3 : I ≠ l := fun e => hI (l, _) (.tail _ (.head _)) e.symm
      repeat' (first | ((with_reducible show SrcTup _ _ _ _ _ _ _ _ _ _ _ _ _ _ ); refine Hold.out ?_) | ((with_reducible show wpAny _ _ (exec (Stmt.Assign [_] (Expr.ListComp _ _ _ _) _) _) _ _ _); (k_here; k_dflt (first | refine Assign_ListComp_Tup (by k_asm) (by rfl) (by with_unfolding_all rfl) (by with_unfolding_all rfl) (by decide) (by rfl) (by decide) (by rfl) (by rfl) (by rfl) ?_ | refine Hold.out ?_))) | ((with_reducible show wpAny _ _ (subscriptTail _ _ (Value.ref _) (Value.ref _)) _ _ _); (k_here; k_dflt (refine sub_tup2 (by with_reducible assumption) (by with_reducible assumption) (by first | assumption | exact List.Mem.tail _ (List.Mem.tail _ (List.Mem.tail _ (List.Mem.tail _ (by first | with_reducible assumption | assumption)))) | k_mem) ?_); intro _ _ _ _ _)) | ((with_reducible show wpAny _ _ (subscriptTail _ _ _ _) _ _ _); (k_here; k_dflt (refine sub_list (by with_reducible assumption) (by k_mem) (by first | with_reducible assumption | assumption) (by omega) ?_))) | (k_unfold; (try dsimp only)) | (k_end; kc_close) | walk1 | (dsimp only; first | ((with_reducible show SrcTup _ _ _ _ _ _ _ _ _ _ _ _ _ _ ); refine Hold.out ?_) | ((with_reducible show wpAny _ _ (exec (Stmt.Assign [_] (Expr.ListComp _ _ _ _) _) _) _ _ _); (k_here; k_dflt (first | refine Assign_ListComp_Tup (by k_asm) (by rfl) (by with_unfolding_all rfl) (by with_unfolding_all rfl) (by decide) (by rfl) (by decide) (by rfl) (by rfl) (by rfl) ?_ | refine Hold.out ?_))) | ((with_reducible show wpAny _ _ (subscriptTail _ _ (Value.ref _) (Value.ref _)) _ _ _); (k_here; k_dflt (refine sub_tup2 (by with_reducible assumption) (by with_reducible assumption) (by first | assumption | exact List.Mem.tail _ (List.Mem.tail _ (List.Mem.tail _ (List.Mem.tail _ (by first | with_reducible assumption | assumption)))) | k_mem) ?_); intro _ _ _ _ _)) | ((with_reducible show wpAny _ _ (subscriptTail _ _ _ _) _ _ _); (k_here; k_dflt (refine sub_list (by with_reducible assumption) (by k_mem) (by first | with_reducible assumption | assumption) (by omega) ?_))) | walk1) | (leave1; (try dsimp only)))
      rename Fr _ _ _ _ => F3
      rename Addr => DT
      rename ∀ p ∈ (I, oI) :: _, p.1 < DT => lq
      have hj : ((i : Int) % 3) = ((i % 3 : Nat) : Int) := by lia  
      have mok : MulOk (Str.ofString " ") ((i : Int) % 3) := hj ▸ blank_mul (i % 3) (by lia  )
      rename News _ _ _ (_ :: (I, oI) :: (l2, _) :: (l, _) :: (L' + 1, _) :: nn) => N4
      refine Hold.mk (src_Tup (fun rem ys n => ∃ oq, oq.data = .cell (some (.int (i : Int) u)) ∧ n = (DT, tupO [.int (d i) u1, .int (wt i) u2]) :: (I, oI) :: (l2, lstO us e2) :: (l, lstO vs e1) :: (L' + 1, oq) :: nn ∧
        ((rem = [.int (d i) u1, .int (wt i) u2] ∧ ys = []) ∨ (∃ t1, rem = [.int (wt i) u2] ∧ ys = [.str (numS (d i).toNat (i % 3)) t1]) ∨ (∃ t1 t2, rem = [] ∧ ys = [.str (numS (d i).toNat (i % 3)) t1, .str (numS (wt i).toNat (i % 3)) t2]))) rfl F3 N4 (.head _) (Nat.le_of_ble_eq_true rfl) ⟨_, by assumption, rfl, .inl ⟨rfl, rfl⟩⟩ ?_ ?_)
      · rintro s' ⟨gg, rfl⟩ v r ys n I5 oI5 C5 oC5 D5 m₂ h tk E' ⟨oq, dq, rfl, hJ⟩ hm hC hx F5 N5 off ne
        obtain ⟨z, tz, rfl, z0, z1, hnext⟩ : ∃ z tz, v = .int z tz ∧ 0 ≤ z ∧ z ≤ 19 ∧ ∀ t, ((r = [.int (d i) u1, .int (wt i) u2] ∧ ys ++ [.str (numS z.toNat (i % 3)) t] = []) ∨ (∃ t1, r = [.int (wt i) u2] ∧ ys ++ [.str (numS z.toNat (i % 3)) t] = [.str (numS (d i).toNat (i % 3)) t1]) ∨ (∃ t1 t2, r = [] ∧ ys ++ [.str (numS z.toNat (i % 3)) t] = [.str (numS (d i).toNat (i % 3)) t1, .str (numS (wt i).toNat (i % 3)) t2])) := by
          have b1 := bd i hi
          have b2 := bw i hi
          rcases hJ with ⟨e, rfl⟩ | ⟨t1, e, rfl⟩ | ⟨t1, t2, e, rfl⟩
          · cases e; exact ⟨_, _, rfl, by lia  , by lia  , fun t => .inr (.inl ⟨t, rfl, rfl⟩)⟩
          · cases e; exact ⟨_, _, rfl, by lia  , by lia  , fun t => .inr (.inr ⟨t1, t, rfl, rfl⟩)⟩
          · cases e
        have jok := num_join' z0 z1
        have mcq : (L' + 1, oq) ∈ (I5, oI5) :: (C5, oC5) :: (D5, LCg.lst ys) :: (DT, tupO [.int (d i) u1, .int (wt i) u2]) :: (I, oI) :: (l2, lstO us e2) :: (l, lstO vs e1) :: (L' + 1, oq) :: nn := .tail _ (.tail _ (.tail _ (.tail _ (.tail _ (.tail _ (.tail _ (.head _)))))))
        clear F3 N4
        obtain ⟨nad, neq⟩ := num_add z0 z1 (i := i) rfl
        repeat' (first | ((with_reducible show wpAny _ _ (binaryOp Operator.Add (Value.str _ _) (Value.str _ _)) _ _ _); (k_here; k_dflt (refine call_addS (by with_reducible assumption) ?_); intro _ _)) | ((with_reducible show wpAny _ _ (PySem.call (Value.builtin "str.join") _ _) _ _ _); (k_here; k_dflt (refine join_strF rfl (by with_reducible assumption) (by with_reducible assumption) (by first | with_reducible assumption | assumption) ?_); intro _ _ _ _ _)) | (k_unfold; (try dsimp only)) | (k_end; kc_close) | walk1 | (dsimp only; first | ((with_reducible show wpAny _ _ (binaryOp Operator.Add (Value.str _ _) (Value.str _ _)) _ _ _); (k_here; k_dflt (refine call_addS (by with_reducible assumption) ?_); intro _ _)) | ((with_reducible show wpAny _ _ (PySem.call (Value.builtin "str.join") _ _) _ _ _); (k_here; k_dflt (refine join_strF rfl (by with_reducible assumption) (by with_reducible assumption) (by first | with_reducible assumption | assumption) ?_); intro _ _ _ _ _)) | walk1) | (leave1; (try dsimp only)))
        rename Fr _ _ _ _ => F6
        rename News _ _ _ _ => N6
        rw [neq]
        exact CTo.mk F6 N6 off hm ⟨_, dq, rfl, hnext _⟩
      · rintro gg ys n ⟨oq, dq, rfl, hJ⟩ hm
        obtain ⟨t1, t2, rfl⟩ : ∃ t1 t2, ys = [.str (numS (d i).toNat (i % 3)) t1, .str (numS (wt i).toNat (i % 3)) t2] := by
          rcases hJ with ⟨e, _⟩ | ⟨_, e, _⟩ | ⟨t1, t2, _, e⟩
          · cases e
          · cases e
          · exact ⟨t1, t2, e⟩
        clear F3 N4 hJ
        obtain ⟨g1, g2, g3, g4, g5, g6, g7⟩ := dn i hi
        have a1 := add_ok1 g4
        have a2 := add_ok2 g4 g3
        have a3 := add_ok3 g4 g3
        repeat' (first | ((with_reducible show wpAny _ _ (PySem.call (Value.ref _) _ _) _ _ _); (k_here; (with_reducible show wpAny _ _ (call (Value.ref 273) _ _) _ _ _); refine Hold.out ?_)) | (k_unfold; (try dsimp only)) | (k_end; kc_close) | walk1 | (dsimp only; first | ((with_reducible show wpAny _ _ (PySem.call (Value.ref _) _ _) _ _ _); (k_here; (with_reducible show wpAny _ _ (call (Value.ref 273) _ _) _ _ _); refine Hold.out ?_)) | walk1) | (leave1; (try dsimp only)))
        rename Fr _ _ _ _ => F6
        rename News _ _ _ _ => N6
        rename _ ∧ _ => oD
        rw [item5 i hi]
        have hl4 : l < DT := lq (l, lstO vs e1) (.tail _ (.tail _ (.head _)))
        have hl5 : l2 < DT := lq (l2, lstO us e2) (.tail _ (.head _))
        have vl : vs.length < 1000 := by have := plv.len; unfold hdrs at this; simp at this; lia  
        have ul : us.length + 1 ≤ sizeLine := by have := plu.len; unfold hdrs at this; simp at this; rw [sizeLine_eq]; lia  
        refine Hold.mk (add_header_c (w := w) (td := t) B' F6 X' (News.up4 N6) T' rfl (by (try dsimp only [ktrTop]); lia  ) (by (try dsimp only [ktrTop]); lia  )
          (neA (Ne.symm oD.2.2.2.1) (neA (Nat.ne_of_gt hl4) (neA hI3 (neA (Nat.ne_of_gt o4) (neA (Nat.ne_of_lt (Nat.lt_trans o1 (Nat.lt_trans o2 o3))) f2)))))
          (.tail _ (.tail _ (.tail _ (.tail _ (.tail _ mH))))) (.tail _ (.tail _ (.tail _ (.tail _ (.tail _ mD))))) vl (okS_letter hi) g2 g1 okS_own g5 g3 g6 g7 (join_ok g4 g3) (join_two _ _) ?_)
        intro T9 t19 t29 ep9 h9 tk9 F9 N9 lT9 lT9'
        clear F6 N6
        have n1 : T9 ≠ l2 := Nat.ne_of_gt (lT9 (l2, lstO us e2) (.tail _ (.tail _ (.tail _ (.head _)))))
        have n2 := oD.2.2.1.symm
        have n3 : DT ≠ l2 := Nat.ne_of_gt hl5
        have n4 : l ≠ l2 := Nat.ne_of_lt o4
        have n5 : L' + 1 ≠ l2 := Nat.ne_of_lt (Nat.lt_trans o1 (Nat.lt_trans o2 (Nat.lt_trans o3 o4)))
        repeat' (first | ((with_reducible show wpAny _ _ (newTuple _) _ _ _); (k_here; k_dflt (refine kup_newTuple (by k_asm) (by k_asm) ?_ (by kmk_size)); intro _ _ _ _ lq1; (try k_lt lq1))) | ((with_reducible show wpAny _ _ (binaryOp Operator.Add (Value.str _ _) (Value.str _ _)) _ _ _); (k_here; k_dflt (refine call_addS (by with_reducible assumption) ?_); intro _ _)) | (k_unfold; (try dsimp only)) | (k_end; kc_close) | walk1 | (dsimp only; first | ((with_reducible show wpAny _ _ (newTuple _) _ _ _); (k_here; k_dflt (refine kup_newTuple (by k_asm) (by k_asm) ?_ (by kmk_size)); intro _ _ _ _ lq1; (try k_lt lq1))) | ((with_reducible show wpAny _ _ (binaryOp Operator.Add (Value.str _ _) (Value.str _ _)) _ _ _); (k_here; k_dflt (refine call_addS (by with_reducible assumption) ?_); intro _ _)) | walk1) | (leave1; (try dsimp only)))
        rename Fr _ _ _ _ => F6
        rename News _ _ _ _ => N6
        rename l < _ ∧ _ => lz
        simp only [List.push_toArray] at N6
        rw [item5 i hi] at N6
        refine ⟨_, _, _, _, _, rfl, F6, News.sub N6 (sub_cons (.tail _ (.tail _ (.tail _ (.tail _ (.tail _ (.head _)))))) (sub_cons (.tail _ (.tail _ (.tail _ (.tail _ (.tail _ (.tail _ (.head _))))))) (sub_cons (.tail _ (.head _)) (sub_cons (.tail _ (.tail _ (.tail _ (.tail _ (.tail _ (.tail _ (.tail _ (.head _)))))))) (sub_cons (.head _) (sub_cons (.tail _ (.tail _ (.head _))) fun _ hp => .tail _ (.tail _ (.tail _ (.tail _ (.tail _ (.tail _ (.tail _ (.tail _ (hp)))))))))))))),
          neA hI2.symm (neA hI3.symm (neA hI1.symm (neA (Nat.ne_of_gt lz.2.2.2.2.1) (neA (Nat.ne_of_gt (lT9 (I, oI) (.tail _ (.tail _ (.head _))))) fun p hp => hI p (.tail _ (.tail _ (.tail _ hp))))))),
          _, _, _, _, _, _, _, dq, rfl, ?_, ?_, .tail _ (.tail _ mH), .tail _ (.tail _ mD), fun p hp => .tail _ (.tail _ (mN p hp)),
          neA (Nat.ne_of_gt lz.2.2.2.2.2.1) (neA n1 f1), neA (Nat.ne_of_gt lz.1) (neA (Nat.ne_of_gt lT9') f2), neA (Nat.ne_of_gt lz.2.2.2.2.2.2.1) (neA (Nat.ne_of_gt (lT9 (L' + 1, oq) (.tail _ (.tail _ (.tail _ (.tail _ (.head _))))))) f3), q1, q2, q3⟩
        · rw [hdrs_succ]
          exact (plu.mono fun p hp => .tail _ (.tail _ hp)).append (.cons (.head _) .nil)
        · rw [hdrs_succ]
          exact (plv.mono fun p hp => .tail _ (.tail _ hp)).append (.cons (.tail _ (.head _)) .nil)
    · rintro m₁ n₁ h tk dr ⟨us, vs, e1, e2, oc, cv, nn, dc, rfl, plu, plv, mH, mD, mN, f1, f2, f3, q1, q2, q3⟩ F4 N4
      clear F3 hR
      k_steps
      refine hQQ _ _ ?_
      exact Hold.mk ⟨rfl, fun PP kk => kk _ _ _ _ _ _ _ _ _ rfl F4 (News.sub N4 (sub_cons (.head _) (sub_cons (.tail _ (.head _)) fun _ hp => .tail _ (.tail _ (.tail _ hp))))) plu plv mH mD mN f1 f2 q1 q2 q3⟩
  clear F1 N1 q1 q2 q3
  intro s' hPP
  refine hPP _ ?_
  clear hPP
  rintro h' tk dr m' us vs e1 e2 nn rfl F1 N1 plu plv mH mD mN f1 f2 q1 q2 q3
  have hv5 : vs.length = 5 := by have := plv.len; unfold hdrs at this; simpa using this
  have hv6 : vs.length ≤ 1000 := by lia  
  have hv7 : vs.length + 1 ≤ sizeLine := by rw [sizeLine_eq]; lia  
  have mH1 : (H, instObj 276 D) ∈ (l2, lstO us e2) :: (l, lstO vs e1) :: nn := .tail _ (.tail _ mH)
  have mD1 : (D, hdD w l t) ∈ (l2, lstO us e2) :: (l, lstO vs e1) :: nn := .tail _ (.tail _ mD)
  have ml1 : (l, lstO vs e1) ∈ (l2, lstO us e2) :: (l, lstO vs e1) :: nn := .tail _ (.head _)
  refine exec_join (fun s' => ∀ PP : Prop, (∀ h' tk m', (s' = { s with heap := h', toks := tk, drawn := dr }) → (Fr g' L' h' m') → (News g' L' h' ((l2, lstO us e2) :: (l, lstO vs e1) :: nn)) → (m' (Str.ofString "book") = some (.ref H)) → (m' (Str.ofString "laid") = some (.ref l2)) → PP) → PP) ?_ ?_
  · refine opq ?_
    intro QQ EE hQQ
    repeat' (first | ((with_reducible show wpAny _ _ (newTuple _) _ _ _); (k_here; k_dflt (refine kup_newTuple (by k_asm) (by k_asm) ?_ (by kmk_size)); intro _ _ _ _ lq1; (try k_lt lq1))) | ((with_reducible show wpAny _ _ (PySem.call (Value.ref _) _ _) _ _ _); (k_here; (with_reducible show wpAny _ _ (call (Value.ref 240) _ _) _ _ _); k_dflt (refine items_c (by k_asm) (by with_reducible assumption) (by k_asm) (by with_reducible assumption) (by k_asm) rfl (by first | exact rmN (k := 6) hd rfl | exact rmN (k := 11) hd rfl | exact rmN (k := 16) hd rfl | exact rmN (k := 21) hd rfl | exact rmN (k := 26) hd rfl | ((try dsimp only [ktrTop]); omega)) (by first | exact rmN (k := 43) hu rfl | exact rmN (k := 83) hu rfl | exact rmN (k := 123) hu rfl | exact rmN (k := 163) hu rfl | ((try dsimp only [ktrTop]); omega)) (by first | with_reducible assumption | assumption) (by first | with_reducible assumption | assumption) (by first | with_reducible assumption | assumption) (by first | with_reducible assumption | assumption) ?_); intro _ _ _ _ _ _)) | (k_unfold; (try dsimp only)) | (k_end; kc_close) | walk1 | (dsimp only; first | ((with_reducible show wpAny _ _ (newTuple _) _ _ _); (k_here; k_dflt (refine kup_newTuple (by k_asm) (by k_asm) ?_ (by kmk_size)); intro _ _ _ _ lq1; (try k_lt lq1))) | ((with_reducible show wpAny _ _ (PySem.call (Value.ref _) _ _) _ _ _); (k_here; (with_reducible show wpAny _ _ (call (Value.ref 240) _ _) _ _ _); k_dflt (refine items_c (by k_asm) (by with_reducible assumption) (by k_asm) (by with_reducible assumption) (by k_asm) rfl (by first | exact rmN (k := 6) hd rfl | exact rmN (k := 11) hd rfl | exact rmN (k := 16) hd rfl | exact rmN (k := 21) hd rfl | exact rmN (k := 26) hd rfl | ((try dsimp only [ktrTop]); omega)) (by first | exact rmN (k := 43) hu rfl | exact rmN (k := 83) hu rfl | exact rmN (k := 123) hu rfl | exact rmN (k := 163) hu rfl | ((try dsimp only [ktrTop]); omega)) (by first | with_reducible assumption | assumption) (by first | with_reducible assumption | assumption) (by first | with_reducible assumption | assumption) (by first | with_reducible assumption | assumption) ?_); intro _ _ _ _ _ _)) | walk1) | (leave1; (try dsimp only)))
    rename Fr _ _ _ _ => F6
    rename News _ _ _ _ => N6
    refine hQQ _ _ ?_
    exact Hold.mk ⟨rfl, fun PP kk => kk _ _ _ rfl F6 (News.sub N6 (fun _ hp => .tail _ (.tail _ hp))) q1 q2⟩
  clear F1 N1 q1 q2 q3
  intro s' hPP
  refine hPP _ ?_
  clear hPP
  rintro h' tk m' rfl F1 N1 q1 q2
  refine exec_join (fun s' => ∀ PP : Prop, (∀ h' tk m', (s' = { s with heap := h', toks := tk, drawn := dr }) → (Fr g' L' h' m') → (News g' L' h' ((l2, lstO us e2) :: (l, lstO vs e1) :: nn)) → (m' (Str.ofString "book") = some (.ref H)) → PP) → PP) ?_ ?_
  · refine opq ?_
    intro QQ EE hQQ
    repeat' (first | ((with_reducible show wpAny _ _ (compareOp CmpOp.NotEq (Value.ref _) (Value.ref _)) _ _ _); (k_here; refine Hold.out ?_)) | ((with_reducible show wpAny _ _ (PySem.call (Value.ref _) _ _) _ _ _); (k_here; (with_reducible show wpAny _ _ (call (Value.ref 240) _ _) _ _ _); k_dflt (refine items_c (by k_asm) (by with_reducible assumption) (by k_asm) (by with_reducible assumption) (by k_asm) rfl (by first | exact rmN (k := 6) hd rfl | exact rmN (k := 11) hd rfl | exact rmN (k := 16) hd rfl | exact rmN (k := 21) hd rfl | exact rmN (k := 26) hd rfl | ((try dsimp only [ktrTop]); omega)) (by first | exact rmN (k := 43) hu rfl | exact rmN (k := 83) hu rfl | exact rmN (k := 123) hu rfl | exact rmN (k := 163) hu rfl | ((try dsimp only [ktrTop]); omega)) (by first | with_reducible assumption | assumption) (by first | with_reducible assumption | assumption) (by first | with_reducible assumption | assumption) (by first | with_reducible assumption | assumption) ?_); intro _ _ _ _ _ _)) | (k_unfold; (try dsimp only)) | (k_end; kc_close) | walk1 | (dsimp only; first | ((with_reducible show wpAny _ _ (compareOp CmpOp.NotEq (Value.ref _) (Value.ref _)) _ _ _); (k_here; refine Hold.out ?_)) | ((with_reducible show wpAny _ _ (PySem.call (Value.ref _) _ _) _ _ _); (k_here; (with_reducible show wpAny _ _ (call (Value.ref 240) _ _) _ _ _); k_dflt (refine items_c (by k_asm) (by with_reducible assumption) (by k_asm) (by with_reducible assumption) (by k_asm) rfl (by first | exact rmN (k := 6) hd rfl | exact rmN (k := 11) hd rfl | exact rmN (k := 16) hd rfl | exact rmN (k := 21) hd rfl | exact rmN (k := 26) hd rfl | ((try dsimp only [ktrTop]); omega)) (by first | exact rmN (k := 43) hu rfl | exact rmN (k := 83) hu rfl | exact rmN (k := 123) hu rfl | exact rmN (k := 163) hu rfl | ((try dsimp only [ktrTop]); omega)) (by first | with_reducible assumption | assumption) (by first | with_reducible assumption | assumption) (by first | with_reducible assumption | assumption) (by first | with_reducible assumption | assumption) ?_); intro _ _ _ _ _ _)) | walk1) | (leave1; (try dsimp only)))
    rename Fr _ _ _ _ => F6
    rename News _ _ _ _ => N6
    refine Hold.mk (ne_PL N6 (.head _) (plv.mono fun p hp => .tail _ (.tail _ (.tail _ hp))) (.tail _ (.head _)) (plu.mono fun p hp => .tail _ (.tail _ (.tail _ hp))) (hdrs_ok bd bw) (by show un + 3 + 64 < cLine; lia  ) ?_)
    k_steps
    refine hQQ _ _ ?_
    exact Hold.mk ⟨rfl, fun PP kk => kk _ _ _ rfl F6 (News.sub N6 (fun _ hp => .tail _ hp)) q1⟩
  clear F1 N1 q1 q2
  intro s' hPP
  refine hPP _ ?_
  clear hPP
  rintro h' tk m' rfl F1 N1 q1
  have hH90 : H ≠ 90 := Nat.ne_of_gt (Nat.lt_trans (Nat.lt_trans l90' o1) o2)
  obtain ⟨NB, N2, b90, mHB, mDB, mlB, plB, mNB⟩ : ∃ NB, News g' L' h' ((90, tabObj ps0) :: NB) ∧ (∀ p ∈ NB, p.1 ≠ 90) ∧ (H, instObj 276 D) ∈ NB ∧ (D, hdD w l t) ∈ NB ∧ (l, lstO vs e1) ∈ NB ∧ PL NB vs (hdrs d wt 5) ∧ (∀ p ∈ news, p ∈ NB) :=
    ⟨_, News.pull N1 (.tail _ (.tail _ (mN _ (.head _)))), pull_off, pull_mem mH1 hH90, pull_mem mD1 (Nat.ne_of_gt (Nat.lt_trans l90' o1)), pull_mem ml1 (Nat.ne_of_gt (Nat.lt_trans (Nat.lt_trans (Nat.lt_trans l90' o1) o2) o3)),
      PL.pull N1 (.tail _ (.tail _ (mN _ (.head _)))) (by intro e; cases e) (plv.mono fun p hp => .tail _ (.tail _ hp)), pull_sub (fun p hp => .tail _ (.tail _ (mN _ (.tail _ hp)))) h90⟩
  clear N1
  refine exec_join (fun s' => ∀ PP : Prop, (∀ h' tk m' BD oB, (s' = { s with heap := h', toks := tk, drawn := dr }) → (Fr g' L' h' m') → (News g' L' h' ((BD, oB) :: (90, tabObj ps0) :: NB)) → (∀ p ∈ (90, tabObj ps0) :: NB, p.1 < BD) → ((BD == sysModules) = false) → (oB.IsDictOf (KD w) []) → (m' (Str.ofString "book") = some (.ref H)) → (m' (Str.ofString "blocks") = some (.ref BD)) → PP) → PP) ?_ ?_
  · refine opq ?_
    intro QQ EE hQQ
    k_steps
    rename Fr _ _ _ _ => F6
    rename News _ _ _ _ => N6
    rename 90 < _ ∧ _ => lz
    refine hQQ _ _ ?_
    exact Hold.mk ⟨rfl, fun PP kk => kk _ _ _ _ _ rfl F6 N6 (of_allLt (l := (90, tabObj ps0) :: NB) lz) (by assumption) (by assumption) q1 rfl⟩
  clear F1 N2 q1
  intro s' hPP
  refine hPP _ ?_
  clear hPP
  rintro h' tk m' BD oB rfl F1 N1 lBD loBD dB0 q1 q2
  refine exec_join (fun s' => ∀ PP : Prop, (∀ h' tk dr m' o kB ps n1, (s' = { s with heap := h', toks := tk, drawn := dr }) → (Fr g' L' h' m') → (News g' L' h' ((BD, o) :: (90, tabObj ps) :: n1)) → (o.IsDictOf (KD w) kB) → (TabK kB 5 (fun k v => BlkAt w n1 d wt [k] v)) → (∀ p ∈ NB, p ∈ n1) → (∀ p ∈ n1, p.1 ≠ 90) → (∀ p ∈ n1, p.1 ≠ BD) → (m' (Str.ofString "blocks") = some (.ref BD)) → PP) → PP) ?_ ?_
  · refine opqQ ?_
    intro QQ hQQ
    refine For_D ?_
    k_steps
    refine str_D (fun i m₁ n₁ => ∃ o kB ps n1, n₁ = (BD, o) :: (90, tabObj ps) :: n1 ∧ o.IsDictOf (KD w) kB ∧ TabK kB i (fun k v => BlkAt w n1 d wt [k] v) ∧ TB ps n1 ∧ (∀ p ∈ NB, p ∈ n1) ∧ (∀ p ∈ n1, p.1 ≠ 90) ∧ (∀ p ∈ n1, p.1 ≠ BD) ∧
        m₁ (Str.ofString "book") = some (.ref H) ∧ m₁ (Str.ofString "blocks") = some (.ref BD)) rfl F1 N1
        ⟨_, _, _, _, rfl, dB0, .nil, tb.mono mNB, fun _ h => h, b90, fun p hp => Nat.ne_of_lt (lBD p (.tail _ hp)), q1, q2⟩ ?_ ?_
    · clear F1 N1 q1 q2 dB0
      rintro I i c u m₁ n₁ oI h tk dr hc ⟨o, kB, ps, n1, rfl, dB, tab, tbp, mB, n90, nBD, q1, q2⟩ hI F1 N1
      obtain ⟨hi, rfl⟩ := letter_at hc
      change wpAny _ _ (assign _ _ (.str (letter i) u)) _ _ _
      refine assign_local F1 N1 rfl rfl rfl ?_
      clear F1 N1
      intro h1 F1 N1
      refine opq ?_
      intro QT ET hQT
      have zd : (d i).toNat < 20 := by have := bd i hi; lia  
      have zw : (wt i).toNat < 20 := by have := bw i hi; lia  
      have zj : i % 3 < 3 := Nat.mod_lt _ (by decide)
      have hf : (hdrs d wt 5).find? (fun p => Txt.lower p.1 == Txt.lower (Txt.upper (letter i))) = some (letter i, bodyT (numS (wt i).toNat (i % 3)) (numS (d i).toNat (i % 3))) := by rw [upper_letter i hi]; exact hdrs_find hi
      have on : OkS (Txt.upper (letter i)) := by rw [upper_letter i hi]; exact okS_upper hi
      have oln : OkS (Txt.lower (Txt.upper (letter i))) := by rw [upper_letter i hi, lower_upper i hi]; exact okS_letter hi
      have mH2 : (H, instObj 276 D) ∈ (I, oI) :: (BD, o) :: (90, tabObj ps) :: n1 := .tail _ (.tail _ (.tail _ (mB _ mHB)))
      have mD2 : (D, hdD w l t) ∈ (I, oI) :: (BD, o) :: (90, tabObj ps) :: n1 := .tail _ (.tail _ (.tail _ (mB _ mDB)))
      have ml2 : (l, lstO vs e1) ∈ (I, oI) :: (BD, o) :: (90, tabObj ps) :: n1 := .tail _ (.tail _ (.tail _ (mB _ mlB)))
      have pl2 : PL ((I, oI) :: (BD, o) :: (90, tabObj ps) :: n1) vs (hdrs d wt 5) := plB.mono fun p hp => .tail _ (.tail _ (.tail _ (mB _ hp)))
      have opk := hdrs_ok bd bw
      have bsz : (bodyT (numS (wt i).toNat (i % 3)) (numS (d i).toNat (i % 3))).length ≤ sizeLine := by have := numS_len _ zw _ zj; have := numS_len _ zd _ zj; rw [body_len, sizeLine_eq]; lia  
      refine exec_join (fun s' => ∀ PP : Prop, (∀ h' tk DX t1 t2, (s' = { s with heap := h', toks := tk, drawn := dr }) → (Fr g' L' h' (fun z => if z = Str.ofString "texts" then some (.ref DX) else if z = Str.ofString "job" then some (.str (letter i) u) else m₁ z)) → (News g' L' h' ((DX, lstO [.str (numS (wt i).toNat (i % 3)) t1, .str (numS (d i).toNat (i % 3)) t2] 0) :: (I, oI) :: (BD, o) :: (90, tabObj ps) :: n1)) → (∀ p ∈ (I, oI) :: (BD, o) :: (90, tabObj ps) :: n1, p.1 < DX) → PP) → PP) ?_ ?_
      · refine opq ?_
        intro QQ EE hQQ
        repeat' (first | ((with_reducible show wpAny _ _ (PySem.call (Value.builtin "str.split") _ _) _ _ _); (k_here; k_dflt (refine split_hdr (by first | with_reducible assumption | assumption) (by first | with_reducible assumption | assumption) (by first | with_reducible assumption | assumption) (by with_reducible assumption) (by with_reducible assumption) ?_); intro _ _ _ _ _ _ _ _)) | ((with_reducible show wpAny _ _ (PySem.call (Value.ref _) _ _) _ _ _); (k_here; (with_reducible show wpAny _ _ (call (Value.ref 223) _ _) _ _ _); k_dflt (refine get_c (ln := Str.empty) (by k_asm) (by with_reducible assumption) (by k_asm) (by with_reducible assumption) (by k_asm) rfl (by first | exact rmN (k := 6) hd rfl | exact rmN (k := 11) hd rfl | exact rmN (k := 16) hd rfl | exact rmN (k := 21) hd rfl | exact rmN (k := 26) hd rfl | ((try dsimp only [ktrTop]); omega)) (by first | exact rmN (k := 43) hu rfl | exact rmN (k := 83) hu rfl | exact rmN (k := 123) hu rfl | exact rmN (k := 163) hu rfl | ((try dsimp only [ktrTop]); omega)) (by first | with_reducible assumption | assumption) (by first | with_reducible assumption | assumption) (by first | with_reducible assumption | assumption) (by first | with_reducible assumption | assumption) (by first | with_reducible assumption | assumption) (by first | with_reducible assumption | assumption) (by first | with_reducible assumption | assumption) (by with_reducible assumption) ?_); intro _ _ _ _ _)) | ((with_reducible show wpAny _ _ (PySem.call (Value.builtin "str.upper") _ _) _ _ _); (k_here; k_dflt (refine call_upper (Nat.le_of_ble_eq_true rfl) ?_))) | (k_unfold; (try dsimp only)) | (k_end; kc_close) | walk1 | (dsimp only; first | ((with_reducible show wpAny _ _ (PySem.call (Value.builtin "str.split") _ _) _ _ _); (k_here; k_dflt (refine split_hdr (by first | with_reducible assumption | assumption) (by first | with_reducible assumption | assumption) (by first | with_reducible assumption | assumption) (by with_reducible assumption) (by with_reducible assumption) ?_); intro _ _ _ _ _ _ _ _)) | ((with_reducible show wpAny _ _ (PySem.call (Value.ref _) _ _) _ _ _); (k_here; (with_reducible show wpAny _ _ (call (Value.ref 223) _ _) _ _ _); k_dflt (refine get_c (ln := Str.empty) (by k_asm) (by with_reducible assumption) (by k_asm) (by with_reducible assumption) (by k_asm) rfl (by first | exact rmN (k := 6) hd rfl | exact rmN (k := 11) hd rfl | exact rmN (k := 16) hd rfl | exact rmN (k := 21) hd rfl | exact rmN (k := 26) hd rfl | ((try dsimp only [ktrTop]); omega)) (by first | exact rmN (k := 43) hu rfl | exact rmN (k := 83) hu rfl | exact rmN (k := 123) hu rfl | exact rmN (k := 163) hu rfl | ((try dsimp only [ktrTop]); omega)) (by first | with_reducible assumption | assumption) (by first | with_reducible assumption | assumption) (by first | with_reducible assumption | assumption) (by first | with_reducible assumption | assumption) (by first | with_reducible assumption | assumption) (by first | with_reducible assumption | assumption) (by first | with_reducible assumption | assumption) (by with_reducible assumption) ?_); intro _ _ _ _ _)) | ((with_reducible show wpAny _ _ (PySem.call (Value.builtin "str.upper") _ _) _ _ _); (k_here; k_dflt (refine call_upper (Nat.le_of_ble_eq_true rfl) ?_))) | walk1) | (leave1; (try dsimp only)))
        rename Fr _ _ _ _ => F6
        rename News _ _ _ _ => N6
        refine hQQ _ _ ?_
        exact Hold.mk ⟨rfl, fun PP kk => kk _ _ _ _ _ rfl F6 N6 (by assumption)⟩
      clear F1 N1 hf on oln mH2 mD2 ml2 pl2 opk bsz
      intro s' hPP
      refine hPP _ ?_
      clear hPP
      rintro h' tk DX t1 t2 rfl F1 N1 lDX
      refine exec_join (fun s' => ∀ PP : Prop, (∀ h' tk x t1 t2 ep, (s' = { s with heap := h', toks := tk, drawn := dr }) → (Fr g' L' h' (fun z => if z = Str.ofString "texts" then some (.ref DX) else if z = Str.ofString "job" then some (.str (letter i) u) else m₁ z)) → (News g' L' h' ((DX, lstO [.str (numS (wt i).toNat (i % 3)) t1, .str x t2] ep) :: (I, oI) :: (BD, o) :: (90, tabObj ps) :: n1)) → (Numeral x (d i).toNat) → PP) → PP) ?_ ?_
      · refine opq ?_
        intro QQ EE hQQ
        have mk1 := mok_1100
        have mk2 := mok_1200
        have ad1 := add_long1 zd zj
        have ad2 := add_long2 zd zj
        have nDX := neAll_lt lDX
        repeat' (first | ((with_reducible show wpAny _ _ (binaryOp Operator.Add (Value.str _ _) (Value.str _ _)) _ _ _); (k_here; k_dflt (refine call_addS (by with_reducible assumption) ?_); intro _ _)) | ((with_reducible show wpAny _ _ (binaryOp Operator.Mult (Value.str _ _) (Value.int _ _)) _ _ _); (k_here; k_dflt (refine SB.mul (by first | with_reducible assumption | assumption) ?_); intro _ _)) | (k_unfold; (try dsimp only)) | (k_end; kc_close) | walk1 | (dsimp only; first | ((with_reducible show wpAny _ _ (binaryOp Operator.Add (Value.str _ _) (Value.str _ _)) _ _ _); (k_here; k_dflt (refine call_addS (by with_reducible assumption) ?_); intro _ _)) | ((with_reducible show wpAny _ _ (binaryOp Operator.Mult (Value.str _ _) (Value.int _ _)) _ _ _); (k_here; k_dflt (refine SB.mul (by first | with_reducible assumption | assumption) ?_); intro _ _)) | walk1) | (leave1; (try dsimp only)))
        · rename (letter i == Str.ofString "a") = true => hc1
          rename Fr _ _ _ _ => F6
          rename News _ _ _ _ => N6
          have i0 : i % 3 = 0 := by
            have e : Str.ofString "a" = letter 0 := rfl
            rw [e, letter_beq] at hc1
            have := of_decide_eq_true hc1
            lia  
          refine hQQ _ _ ?_
          exact Hold.mk ⟨rfl, fun PP kk => kk _ _ _ _ _ _ rfl F6 N6 (by rw [long_is i0]; exact numeralL zd)⟩
        · rename Fr _ _ _ _ => F6
          rename News _ _ _ _ => N6
          refine hQQ _ _ ?_
          exact Hold.mk ⟨rfl, fun PP kk => kk _ _ _ _ _ _ rfl F6 N6 (numeral zd zj)⟩
      clear F1 N1
      intro s' hPP
      refine hPP _ ?_
      clear hPP
      rintro h' tk x t1 t2 ep rfl F1 N1 nx
      refine exec_join (fun s' => ∀ PP : Prop, (∀ h' tk dr m' ps' X, (s' = { s with heap := h', toks := tk, drawn := dr }) → (Fr g' L' h' m') → (News g' L' h' ((BD, o) :: (I, oI) :: (90, tabObj ps') :: (X ++ n1))) → (∀ p ∈ X, p.1 ≠ 90 ∧ p.1 ≠ I ∧ p.1 ≠ BD) → (TB ps' (X ++ n1)) → (m' (Str.ofString "book") = some (.ref H)) → (m' (Str.ofString "blocks") = some (.ref BD)) → (m' (Str.ofString "job") = some (.str (letter i) u)) → (IntAt m' (Str.ofString "weight") (wt i)) → (IntAt m' (Str.ofString "span") (d i)) → PP) → PP) ?_ ?_
      · refine opq ?_
        intro QQ EE hQQ
        have d90 : DX ≠ 90 := Nat.ne_of_gt (lDX (90, _) (.tail _ (.tail _ (.head _))))
        have i90 : I ≠ 90 := fun e => hI (90, _) (.tail _ (.head _)) e.symm
        have b90' : BD ≠ 90 := Nat.ne_of_gt (lBD (90, _) (.head _))
        k_steps
        refine from_numeral_c B' F1 X' (News.up3 N1) (tbp.mono fun p hp => .tail _ (.tail _ (.tail _ hp))) T' rfl (by (try dsimp only [ktrTop]); lia  ) (by (try dsimp only [ktrTop]); lia  ) CH (neA d90 (neA i90 (neA b90' n90))) (numeral zw zj) ?_
        intro tA hA kA dA psA nA sA xA FA NA tbA kpA
        clear F1 N1
        have mDX : (DX, lstO [.str (numS (wt i).toNat (i % 3)) t1, .str x t2] ep) ∈ (90, tabObj psA) :: nA := .tail _ (sA _ (.head _))
        repeat' (first | ((with_reducible show wpAny _ _ (subscriptTail _ _ _ _) _ _ _); (k_here; (with_reducible show wpAny _ _ (subscriptTail _ _ (Value.ref _) (Value.int 1 _)) _ _ _); k_dflt (refine sub_list1 (by with_reducible assumption) (by with_reducible assumption) ?_))) | (k_unfold; (try dsimp only)) | (k_end; kc_close) | walk1 | (dsimp only; first | ((with_reducible show wpAny _ _ (subscriptTail _ _ _ _) _ _ _); (k_here; (with_reducible show wpAny _ _ (subscriptTail _ _ (Value.ref _) (Value.int 1 _)) _ _ _); k_dflt (refine sub_list1 (by with_reducible assumption) (by with_reducible assumption) ?_))) | walk1) | (leave1; (try dsimp only)))
        refine from_numeral_c B' FA X' NA tbA T' rfl (by (try dsimp only [ktrTop]); lia  ) (by (try dsimp only [ktrTop]); lia  ) CH xA nx ?_
        intro tC hC kC dC psC nC sC xC FC NC tbC kpC
        clear FA NA
        repeat' (first | ((with_reducible show wpAny _ _ (newTuple _) _ _ _); (k_here; k_dflt (refine kup_newTuple (by k_asm) (by k_asm) ?_ (by kmk_size)); intro _ _ _ _ lq1; (try k_lt lq1))) | (k_unfold; (try dsimp only)) | (k_end; kc_close) | walk1 | (dsimp only; first | ((with_reducible show wpAny _ _ (newTuple _) _ _ _); (k_here; k_dflt (refine kup_newTuple (by k_asm) (by k_asm) ?_ (by kmk_size)); intro _ _ _ _ lq1; (try k_lt lq1))) | walk1) | (leave1; (try dsimp only)))
        rename Fr _ _ _ _ => F6
        rename News _ _ _ _ => N6
        obtain ⟨X1, fX1, tb1⟩ := kpA n1 (fun p hp => .tail _ (.tail _ (.tail _ hp))) tbp
        obtain ⟨X2, fX2, tb2⟩ := kpC (X1 ++ n1) (fun p hp => (List.mem_append.mp hp).elim (fun h => (fX1 p h).1) fun h => sA _ (.tail _ (.tail _ (.tail _ h)))) tb1
        have mI : ∀ p ∈ (DX, lstO [.str (numS (wt i).toNat (i % 3)) t1, .str x t2] ep) :: (I, oI) :: (BD, o) :: n1, p ∈ nC := fun p hp => sC _ (sA _ hp)
        refine hQQ _ _ ?_
        refine Hold.mk ⟨rfl, fun PP kk => kk _ _ _ _ _ (X2 ++ X1) rfl F6 (News.sub N6 (sub_cons (.tail _ (.tail _ (mI _ (.tail _ (.tail _ (.head _)))))) (sub_cons (.tail _ (.tail _ (mI _ (.tail _ (.head _))))) (sub_cons (.tail _ (.head _)) fun p hp => .tail _ (.tail _ ?_))))) (fun p hp => ?_) (by rw [List.append_assoc]; exact tb2) q1 q2 rfl (IntAt.of rfl ?_) (IntAt.of rfl ?_)⟩
        · rcases List.mem_append.mp hp with hp | hp
          · rcases List.mem_append.mp hp with hp | hp
            · exact (fX2 p hp).1
            · exact sC _ (fX1 p hp).1
          · exact mI _ (.tail _ (.tail _ (.tail _ hp)))
        · rcases List.mem_append.mp hp with hp | hp
          · exact ⟨xC _ (fX2 p hp).1, Nat.ne_of_gt ((fX2 p hp).2 _ (sA _ (.tail _ (.head _)))), Nat.ne_of_gt ((fX2 p hp).2 _ (sA _ (.tail _ (.tail _ (.head _)))))⟩
          · exact ⟨xC _ (sC _ (fX1 p hp).1), Nat.ne_of_gt ((fX1 p hp).2 _ (.tail _ (.head _))), Nat.ne_of_gt ((fX1 p hp).2 _ (.tail _ (.tail _ (.head _))))⟩
        · have := bw i hi; lia  
        · have := bd i hi; lia  
      clear F1 N1 q1 q2
      intro s' hPP
      refine hPP _ ?_
      clear hPP
      rintro h' tk dr' m' ps' X9 rfl F1 N1 x9 tb9 q1 q2 q3 ⟨tw, q4⟩ ⟨ts, q5⟩
      obtain ⟨d1, d2⟩ := bd i hi
      obtain ⟨w1, w2⟩ := bw i hi
      have nIB : I ≠ BD := fun e => hI (BD, o) (.head _) e.symm
      have n90B : (90 : Addr) ≠ BD := Nat.ne_of_lt (lBD (90, _) (.head _))
      have nX : ∀ p ∈ X9 ++ n1, p.1 ≠ BD := fun p hp => (List.mem_append.mp hp).elim (fun h => (x9 p h).2.2) (nBD p)
      have hkB : kB.length ≤ sizeLine := by rw [tab.len, sizeLine_eq]; lia  
      repeat' (first | ((with_reducible show wpAny _ _ (newTuple _) _ _ _); (k_here; k_dflt (refine kup_newTuple (by k_asm) (by k_asm) ?_ (by kmk_size)); intro _ _ _ _ lq1; (try k_lt lq1))) | ((with_reducible show wpAny _ _ (eval (Expr.Dict _ _ _) _) _ _ _); (k_here; (with_reducible show wpAny _ _ (eval (Expr.Dict [some (Expr.Name _ _)] [Expr.Name _ _] _) _) _ _ _); k_dflt (refine kdn_eval (knd := PySem.strKind _ _) (by k_asm) (by k_asm) (Top.nolimit (by k_asm)) rfl rfl (List.cons_ne_nil _ _) (Nat.le_of_ble_eq_true rfl) ?_); intro dq' hq' oq' Fq' Nq' l1q' loq' hdq'; (try k_lt l1q'))) | ((with_reducible show wpAny _ _ (setItem (Value.ref _) (Value.str _ _) _) _ _ _); (k_here; k_dflt (refine kda_set (knd := PySem.strKind _ _) (by with_reducible assumption) (by with_reducible assumption) (by k_updF) (by with_reducible assumption) (strKind_is _ _ _ _) (by first | with_reducible assumption | assumption) ?_); intro _ _ _ Nq' _; (try dsimp only at Nq'))) | ((with_reducible show wpAny _ _ (PySem.call (Value.ref _) _ _) _ _ _); (k_here; (with_reducible show wpAny _ _ (call (Value.ref 130) _ _) _ _ _); k_dflt (refine imul_c (by k_asm) (by with_reducible assumption) (by k_asm) (by with_reducible assumption) (by k_asm) rfl (by first | exact rmN (k := 6) hd rfl | exact rmN (k := 11) hd rfl | exact rmN (k := 16) hd rfl | exact rmN (k := 21) hd rfl | exact rmN (k := 26) hd rfl | ((try dsimp only [ktrTop]); omega)) (by first | exact rmN (k := 43) hu rfl | exact rmN (k := 83) hu rfl | exact rmN (k := 123) hu rfl | exact rmN (k := 163) hu rfl | ((try dsimp only [ktrTop]); omega)) (by omega) (by omega) (by omega) (by omega) ?_); intro _ _ _ _ _)) | (k_unfold; (try dsimp only)) | (k_end; kc_close) | walk1 | (dsimp only; first | ((with_reducible show wpAny _ _ (newTuple _) _ _ _); (k_here; k_dflt (refine kup_newTuple (by k_asm) (by k_asm) ?_ (by kmk_size)); intro _ _ _ _ lq1; (try k_lt lq1))) | ((with_reducible show wpAny _ _ (eval (Expr.Dict _ _ _) _) _ _ _); (k_here; (with_reducible show wpAny _ _ (eval (Expr.Dict [some (Expr.Name _ _)] [Expr.Name _ _] _) _) _ _ _); k_dflt (refine kdn_eval (knd := PySem.strKind _ _) (by k_asm) (by k_asm) (Top.nolimit (by k_asm)) rfl rfl (List.cons_ne_nil _ _) (Nat.le_of_ble_eq_true rfl) ?_); intro dq' hq' oq' Fq' Nq' l1q' loq' hdq'; (try k_lt l1q'))) | ((with_reducible show wpAny _ _ (setItem (Value.ref _) (Value.str _ _) _) _ _ _); (k_here; k_dflt (refine kda_set (knd := PySem.strKind _ _) (by with_reducible assumption) (by with_reducible assumption) (by k_updF) (by with_reducible assumption) (strKind_is _ _ _ _) (by first | with_reducible assumption | assumption) ?_); intro _ _ _ Nq' _; (try dsimp only at Nq'))) | ((with_reducible show wpAny _ _ (PySem.call (Value.ref _) _ _) _ _ _); (k_here; (with_reducible show wpAny _ _ (call (Value.ref 130) _ _) _ _ _); k_dflt (refine imul_c (by k_asm) (by with_reducible assumption) (by k_asm) (by with_reducible assumption) (by k_asm) rfl (by first | exact rmN (k := 6) hd rfl | exact rmN (k := 11) hd rfl | exact rmN (k := 16) hd rfl | exact rmN (k := 21) hd rfl | exact rmN (k := 26) hd rfl | ((try dsimp only [ktrTop]); omega)) (by first | exact rmN (k := 43) hu rfl | exact rmN (k := 83) hu rfl | exact rmN (k := 123) hu rfl | exact rmN (k := 163) hu rfl | ((try dsimp only [ktrTop]); omega)) (by omega) (by omega) (by omega) (by omega) ?_); intro _ _ _ _ _)) | walk1) | (leave1; (try dsimp only)))
      rename Fr _ _ _ _ => F6
      rename News _ _ _ _ => N6
      rename BD < _ ∧ _ => ld
      rename _ ∧ BD < _ ∧ _ => lD
      refine hQT _ _ ?_
      refine ⟨_, _, _, _, _, rfl, F6, News.sub N6 (sub_cons (.tail _ (.tail _ (.tail _ (.head _)))) (sub_cons (.tail _ (.tail _ (.head _))) (sub_cons (.tail _ (.tail _ (.tail _ (.tail _ (.head _))))) (sub_cons (.head _) (sub_cons (.tail _ (.head _)) fun _ hp => .tail _ (.tail _ (.tail _ (.tail _ (.tail _ hp))))))))),
        neA nIB.symm (neA (fun e => hI (90, _) (.tail _ (.head _)) e) (neA (Nat.ne_of_gt lD.2.2.1) (neA (Nat.ne_of_gt ld.2.1) fun p hp => (List.mem_append.mp hp).elim (fun h => (x9 p h).2.1) fun h => hI p (.tail _ (.tail _ h))))),
        _, _, _, _, rfl, by assumption, tab.snoc (fun _ _ _ h => h.mono fun _ hp => .tail _ (.tail _ (List.mem_append_right _ hp))) (blk_one (.head _) (.tail _ (.head _)) (by assumption) (by assumption)), tb9.mono fun _ hp => .tail _ (.tail _ hp),
        fun p hp => .tail _ (.tail _ (List.mem_append_right _ (mB p hp))), neA (Nat.ne_of_gt lD.2.2.2.1) (neA (Nat.ne_of_gt ld.2.2.1) fun p hp => (List.mem_append.mp hp).elim (fun h => (x9 p h).1) (n90 p)),
        neA (Nat.ne_of_gt lD.2.1) (neA (Nat.ne_of_gt ld.1) nX), q1, q2⟩
    · rintro m₁ n₁ h tk dr ⟨o, kB, ps, n1, rfl, dB, tab, tbp, mB, n90, nBD, q1, q2⟩ F4 N4
      clear F1 N1
      k_steps
      refine hQQ _ _ ?_
      exact Hold.mk ⟨rfl, fun PP kk => kk _ _ _ _ _ _ _ _ rfl F4 N4 dB tab mB n90 nBD q2⟩
  clear F1 N1 q1 q2 dB0
  intro s' hPP
  refine hPP _ ?_
  clear hPP
  rintro h' tk dr m' o kB ps n1 rfl F1 N1 dB tab mB n90 nBD q2
  k_steps
  rename Fr _ _ _ _ => F6
  rename News _ _ _ _ => N6
  exact ret _ _ _ _ _ _ _ _ F6 N6 dB tab (fun p hp => mB p (mNB p hp)) n90 nBD loBD (Nat.ne_of_gt (lBD (90, _) (.head _)))
end Mine

end
section -- W25
theorem Mine.off_W25 : True := by w_top off; trivial
open PySem PySem.W PyProof.Rows
set_option maxRecDepth 100000
namespace Mine
theorem jb_d (x : Int) : 1 ≤ x % 7 + 1 ∧ x % 7 + 1 ≤ 7 := by omega
theorem jb_w (x : Int) : 0 ≤ x / 7 % 20 ∧ x / 7 % 20 ≤ 19 := by omega
theorem jb_b (x : Int) {k : Nat} (h : k ≠ 0) : (x / 140 % ((max k 1 : Nat) : Int)).toNat < k := by
  have e : max k 1 = k := by omega
  rw [e]
  have := Int.emod_lt_of_pos (x / 140) (b := (k : Int)) (by omega)
  have := Int.emod_nonneg (x / 140) (b := (k : Int)) (by omega)
  omega
theorem jb_b5 (x : Int) {k : Nat} (h : k < 5) : (x / 140 % ((max k 1 : Nat) : Int)).toNat < 5 := by
  have := Int.emod_lt_of_pos (x / 140) (b := ((max k 1 : Nat) : Int)) (by omega)
  omega
theorem off1_ne {D : Addr} : ∀ {l : List (Addr × Obj)}, LCg.Off1 D l → ∀ {p : Addr × Obj}, p ∈ l → p.1 ≠ D
  | [], _, _, h => nomatch h
  | _ :: _, h, _, hp => (List.mem_cons.mp hp).elim (fun e => e ▸ h.1) fun hp => off1_ne h.2 hp
theorem wd_is (x : Int) : x.fmod 7 + 1 = x % 7 + 1 := by rw [Int.fmod_eq_emod_of_nonneg _ (by decide)]
theorem ww_is (x : Int) : (x.fdiv 7).fmod 20 = x / 7 % 20 := by rw [Int.fmod_eq_emod_of_nonneg _ (by decide), Int.fdiv_eq_ediv_of_nonneg _ (by decide)]
theorem wb_is (x : Int) (i : Nat) : (x.fdiv 140).fmod (if 1 > (i : Int) then 1 else (i : Int)) = ((x / 140 % (max i 1 : Nat)).toNat : Int) := by
  have e : (if 1 > (i : Int) then 1 else (i : Int)) = ((max i 1 : Nat) : Int) := by split <;> omega
  rw [e, Int.fmod_eq_emod_of_nonneg _ (by omega), Int.fdiv_eq_ediv_of_nonneg _ (by decide), Int.toNat_of_nonneg (Int.emod_nonneg _ (by omega))]
theorem jobAt_of {D : Addr} {X : List (Addr × Obj)} {d w d' w' b' : Int} {b : Nat} {u1 u2 u3 : Tok} (hd : d' = d) (hw : w' = w) (hb : b' = (b : Int)) : JobAt ((D, tupO [.int d' u1, .int w' u2, .int b' u3]) :: X) D d w b := by
  subst hd hw hb; exact ⟨u1, u2, u3, .head _⟩
local macro_rules | `(tactic| walk_at "CompSrc") => `(tactic| refine Hold.out ?_)
set_option maxHeartbeats 8000000 in
theorem lawT : PySem.Challenge.rw_wy0045_01.Holds := hd (by
  k_go0
  (all_goals try k_fold)
  rename_i ns hs hlay0 hL1 hr1 hl2 w7 w6 la lv w3 hLb ra w1 r0 hI hr hlen hc hDf h1 tk1 oc3 oc2 oc1 cc3 cc2 cc1 X0 X' T' K' F' N' l0
  rename Shared => s1
  rename World => w
  refine opq ?_
  intro QW EW hQW
  repeat' (first | ((with_reducible show wpAny _ _ (eval (Expr.ListComp _ _ _ _) _) _ _ _); (k_here; first | ((with_reducible show wpAny _ _ (eval (Expr.ListComp _ [⟨Expr.Name _ _, _, [], _⟩] _ _) _) _ _ _); k_dflt (refine LCg.ListComp_U (F₀ := by k_asm) (by with_unfolding_all rfl) (by decide) (by rfl) (by decide) (by rfl) ?_)))) | (k_unfold; (try dsimp only)) | (k_end; kc_close) | walk1 | (dsimp only; first | ((with_reducible show wpAny _ _ (eval (Expr.ListComp _ _ _ _) _) _ _ _); (k_here; first | ((with_reducible show wpAny _ _ (eval (Expr.ListComp _ [⟨Expr.Name _ _, _, [], _⟩] _ _) _) _ _ _); k_dflt (refine LCg.ListComp_U (F₀ := by k_asm) (by with_unfolding_all rfl) (by decide) (by rfl) (by decide) (by rfl) ?_)))) | walk1) | (leave1; (try dsimp only)))
  rename IsRange _ _ _ _ _ _ _ _ => hR
  rename Fr _ _ _ _ => F3
  rename News _ _ _ _ => N3
  refine Hold.mk (src_R (nn := 7) (fun i ys n => n = (s1.heap.objs.size + 1 + 1 + 1, oc3) :: (s1.heap.objs.size + 1 + 1, oc2) :: (s1.heap.objs.size + 1, oc1) :: [(90, tabObj #[])] ∧ ∃ cs : List Int, IntsAre ys cs ∧ cs.length = i) rfl F3 N3 hR (by decide) (by decide) (by rw [sizeLine_eq]; decide) ⟨rfl, [], .nil, rfl⟩ ?_ ?_)
  · rintro s' ⟨gg, rfl⟩ i t ys n I5 oI5 C5 oC5 D5 m₂ h tk E' hi ⟨rfl, cs, hcs, hcl⟩ hC hx F5 N5 off ne
    clear F3 N3
    repeat' (first | ((with_reducible show wpAny _ _ (PySem.call (Value.builtin "sum") _ _) _ _ _); (k_here; (with_reducible show wpAny _ _ (call (Value.builtin "sum") [Value.ref _]) _ _ _); refine Hold.out ?_)) | (k_unfold; (try dsimp only)) | (k_end; kc_close) | walk1 | (dsimp only; first | ((with_reducible show wpAny _ _ (PySem.call (Value.builtin "sum") _ _) _ _ _); (k_here; (with_reducible show wpAny _ _ (call (Value.builtin "sum") [Value.ref _]) _ _ _); refine Hold.out ?_)) | walk1) | (leave1; (try dsimp only)))
    rename Fr _ _ _ _ => F6
    rename News _ _ _ _ => N6
    obtain ⟨ms, hms⟩ := ints_pick hI (sliceRange (sliceBounds (some (i : Int)) none (some 7) lv.toArray.size).1 (sliceBounds (some (i : Int)) none (some 7) lv.toArray.size).2.1 (sliceBounds (some (i : Int)) none (some 7) lv.toArray.size).2.2)
    refine Hold.mk (sumK rfl F6 N6 (News.isList N6 (.head _)) hms (fun h7 tk7 t7 F7 N7 => ?_))
    clear F6 N6
    k_steps
    rename Fr _ _ _ _ => F8
    rename News _ _ _ _ => N8
    exact CTr.mk F8 (News.sub N8 fun _ hp => .tail _ (.tail _ hp)) off ⟨rfl, cs ++ [_], ints_snoc hcs, by simp [hcl]⟩
  · rintro gg ys n ⟨rfl, cs, hcs, hcl⟩
    clear F3 N3 hR
    obtain ⟨c, tc, rfl⟩ := seven hcs hcl
    clear hcs hcl
    repeat' (first | ((with_reducible show wpAny _ _ (eval (Expr.ListComp _ _ _ _) _) _ _ _); (k_here; first | ((with_reducible show wpAny _ _ (eval (Expr.ListComp _ [⟨Expr.Name _ _, _, [], _⟩] _ _) _) _ _ _); k_dflt (refine LCg.ListComp_U (F₀ := by k_asm) (by with_unfolding_all rfl) (by decide) (by rfl) (by decide) (by rfl) ?_)))) | (k_unfold; (try dsimp only)) | (k_end; kc_close) | walk1 | (dsimp only; first | ((with_reducible show wpAny _ _ (eval (Expr.ListComp _ _ _ _) _) _ _ _); (k_here; first | ((with_reducible show wpAny _ _ (eval (Expr.ListComp _ [⟨Expr.Name _ _, _, [], _⟩] _ _) _) _ _ _); k_dflt (refine LCg.ListComp_U (F₀ := by k_asm) (by with_unfolding_all rfl) (by decide) (by rfl) (by decide) (by rfl) ?_)))) | walk1) | (leave1; (try dsimp only)))
    rename IsRange _ _ _ _ _ _ _ _ => hR
    rename Fr _ _ _ _ => F3
    rename News _ _ _ _ => N3
    rename_i DC hC1 kC1 oC hC2 occ FC NC hocc hC3 kC3 tR uR vR aR
    clear FC NC
    refine Hold.mk (src_R (nn := 5) (fun i ys n => ∃ X, n = X ++ (DC, LCg.lst [.int (c 0) (tc 0), .int (c 1) (tc 1), .int (c 2) (tc 2), .int (c 3) (tc 3), .int (c 4) (tc 4), .int (c 5) (tc 5), .int (c 6) (tc 6)]) :: (s1.heap.objs.size + 1 + 1 + 1, oc3) :: (s1.heap.objs.size + 1 + 1, occ) :: (s1.heap.objs.size + 1, oc1) :: [(90, tabObj #[])] ∧ (∀ p ∈ X, ∀ q ∈ (DC, LCg.lst [.int (c 0) (tc 0), .int (c 1) (tc 1), .int (c 2) (tc 2), .int (c 3) (tc 3), .int (c 4) (tc 4), .int (c 5) (tc 5), .int (c 6) (tc 6)]) :: (s1.heap.objs.size + 1 + 1 + 1, oc3) :: (s1.heap.objs.size + 1 + 1, occ) :: (s1.heap.objs.size + 1, oc1) :: [(90, tabObj #[])], q.1 < p.1) ∧ JobsUp X ys (fun k => c k % 7 + 1) (fun k => c k / 7 % 20) (fun k => (c k / 140 % (max k 1 : Nat)).toNat) i) rfl F3 N3 hR (by decide) (by decide) (by rw [sizeLine_eq]; decide) ⟨[], rfl, fun _ h => (nomatch h), .nil⟩ ?_ ?_)
    · rintro s' ⟨gg, rfl⟩ i t ys n I5 oI5 C5 oC5 D5 m₂ h tk E' hi ⟨X, rfl, fX, jX⟩ hC hx F5 N5 off ne
      clear F3 N3 hR
      have mDC : (DC, LCg.lst [.int (c 0) (tc 0), .int (c 1) (tc 1), .int (c 2) (tc 2), .int (c 3) (tc 3), .int (c 4) (tc 4), .int (c 5) (tc 5), .int (c 6) (tc 6)]) ∈ (I5, oI5) :: (C5, oC5) :: (D5, LCg.lst ys) :: (X ++ (DC, LCg.lst [.int (c 0) (tc 0), .int (c 1) (tc 1), .int (c 2) (tc 2), .int (c 3) (tc 3), .int (c 4) (tc 4), .int (c 5) (tc 5), .int (c 6) (tc 6)]) :: (s1.heap.objs.size + 1 + 1 + 1, oc3) :: (s1.heap.objs.size + 1 + 1, occ) :: (s1.heap.objs.size + 1, oc1) :: [(90, tabObj #[])]) := .tail _ (.tail _ (.tail _ (List.mem_append_right _ (.head _))))
      have mcc : (s1.heap.objs.size + 1 + 1, occ) ∈ (I5, oI5) :: (C5, oC5) :: (D5, LCg.lst ys) :: (X ++ (DC, LCg.lst [.int (c 0) (tc 0), .int (c 1) (tc 1), .int (c 2) (tc 2), .int (c 3) (tc 3), .int (c 4) (tc 4), .int (c 5) (tc 5), .int (c 6) (tc 6)]) :: (s1.heap.objs.size + 1 + 1 + 1, oc3) :: (s1.heap.objs.size + 1 + 1, occ) :: (s1.heap.objs.size + 1, oc1) :: [(90, tabObj #[])]) := .tail _ (.tail _ (.tail _ (List.mem_append_right _ (.tail _ (.tail _ (.head _))))))
      have hci : [Value.int (c 0) (tc 0), .int (c 1) (tc 1), .int (c 2) (tc 2), .int (c 3) (tc 3), .int (c 4) (tc 4), .int (c 5) (tc 5), .int (c 6) (tc 6)][i]? = some (.int (c i) (tc i)) := by
        exact lt5 (P := fun i => [Value.int (c 0) (tc 0), .int (c 1) (tc 1), .int (c 2) (tc 2), .int (c 3) (tc 3), .int (c 4) (tc 4), .int (c 5) (tc 5), .int (c 6) (tc 6)][i]? = some (.int (c i) (tc i))) rfl rfl rfl rfl rfl i hi
      repeat' (first | ((with_reducible show wpAny _ _ (subscriptTail _ _ _ _) _ _ _); (k_here; k_dflt (first | refine sub_list (by with_reducible assumption) (by k_mem) (by assumption) (by omega) ?_ | (refine sub_str5 (by assumption) ?_; intro _ _)))) | (k_unfold; (try dsimp only)) | (k_end; kc_close) | walk1 | (dsimp only; first | ((with_reducible show wpAny _ _ (subscriptTail _ _ _ _) _ _ _); (k_here; k_dflt (first | refine sub_list (by with_reducible assumption) (by k_mem) (by assumption) (by omega) ?_ | (refine sub_str5 (by assumption) ?_; intro _ _)))) | walk1) | (leave1; (try dsimp only)))
      rename Fr _ _ _ _ => F7
      rename News _ _ _ _ => N7
      rename I5 < _ ∧ _ => lz
      obtain ⟨lI, lC, lD, lX⟩ := lz
      refine CTr.mk F7 (News.sub N7 (n := (I5, oI5) :: (C5, oC5) :: (D5, LCg.lst ys) :: ((_, _) :: X ++ (DC, LCg.lst [.int (c 0) (tc 0), .int (c 1) (tc 1), .int (c 2) (tc 2), .int (c 3) (tc 3), .int (c 4) (tc 4), .int (c 5) (tc 5), .int (c 6) (tc 6)]) :: (s1.heap.objs.size + 1 + 1 + 1, oc3) :: (s1.heap.objs.size + 1 + 1, occ) :: (s1.heap.objs.size + 1, oc1) :: [(90, tabObj #[])])) (sub_cons (.tail _ (.head _)) (sub_cons (.tail _ (.tail _ (.head _))) (sub_cons (.tail _ (.tail _ (.tail _ (.head _)))) (sub_cons (.head _) fun _ hp => .tail _ (.tail _ (.tail _ (.tail _ (hp))))))))) ⟨⟨Nat.ne_of_gt lI, Nat.ne_of_gt lC, Nat.ne_of_gt lD⟩, off⟩ ⟨(_, _) :: X, rfl, ?_, ?_⟩
      · intro p hp
        rcases List.mem_cons.mp hp with rfl | hp
        · exact fun q' hq' => of_allLt lX q' (List.mem_append_right _ hq')
        · exact fX p hp
      · refine jX.snoc (fun _ hp => .tail _ hp) ?_
        exact jobAt_of (wd_is _) (ww_is _) (wb_is _ _)
    · rintro gg ys n ⟨X, rfl, fX, jX⟩
      clear F3 N3 hR
      k_steps
      rename Fr _ _ _ _ => F9
      rename News _ _ _ _ => N9
      have N10 := News.sub N9 (n := (_, LCg.lst ys) :: (DC, LCg.lst [.int (c 0) (tc 0), .int (c 1) (tc 1), .int (c 2) (tc 2), .int (c 3) (tc 3), .int (c 4) (tc 4), .int (c 5) (tc 5), .int (c 6) (tc 6)]) :: (s1.heap.objs.size + 1 + 1 + 1, oc3) :: (s1.heap.objs.size + 1 + 1, occ) :: (s1.heap.objs.size + 1, oc1) :: (90, tabObj #[]) :: X) (sub_cons (.head _) (sub_cons (.tail _ (List.mem_append_right _ (.head _))) (sub_cons (.tail _ (List.mem_append_right _ (.tail _ (.head _)))) (sub_cons (.tail _ (List.mem_append_right _ (.tail _ (.tail _ (.head _))))) (sub_cons (.tail _ (List.mem_append_right _ (.tail _ (.tail _ (.tail _ (.head _)))))) (sub_cons (.tail _ (List.mem_append_right _ (.tail _ (.tail _ (.tail _ (.tail _ (.head _))))))) fun _ hp => .tail _ (List.mem_append_left _ hp)))))))
      clear N9
      rename LCg.Off1 _ _ => oD
      rename_i JL hJ kJ
      have x3 : ∀ p ∈ X, p.1 ≠ s1.heap.objs.size + 1 + 1 + 1 := fun p hp => Nat.ne_of_gt (fX p hp _ (.tail _ (.head _)))
      have d3 := off1_ne oD (List.mem_append_right _ (.tail _ (.head _)))
      dsimp only at d3
      repeat' (first | ((with_reducible show wpAny _ _ (binaryOp Operator.Add (Value.int _ _) (Value.int _ _)) _ _ _); (k_here; (with_reducible show wpAny _ _ (binaryOp _ (Value.int big3 _) (Value.int _ _)) _ _ _); k_dflt (refine add_great ?_); intro _ _ _ _ _ _)) | ((with_reducible show wpAny _ _ (binaryOp Operator.Mod (Value.int _ _) (Value.int _ _)) _ _ _); (k_here; first | ((with_reducible show wpAny _ _ (binaryOp _ (Value.int _ _) (Value.int big3 _)) _ _ _); k_dflt (refine mod_big3 ?_)) | (k_dflt (refine mod_great (by assumption) ?_); intro _ _ _ _ _))) | ((with_reducible show wpAny _ _ (binaryOp Operator.Pow (Value.int _ _) (Value.int _ _)) _ _ _); (k_here; (with_reducible show wpAny _ _ (binaryOp _ (Value.int 3 _) (Value.int 2700 _)) _ _ _); k_dflt (refine pow_big3 ?_))) | ((with_reducible show wpAny _ _ (subscriptTail _ _ _ _) _ _ _); (k_here; (with_reducible show wpAny _ _ (subscriptTail _ _ (Value.ref _) (Value.int (Int.fmod _ 2) _)) _ _ _); k_dflt (refine pick2 (by with_reducible assumption) (.head _) ?_); intro _ _ _)) | ((with_reducible show wpAny _ _ (PySem.call (Value.ref _) _ _) _ _ _); (k_here; (with_reducible show wpAny _ _ (call (Value.ref 285) _ _) _ _ _); refine Hold.out ?_)) | (k_unfold; (try dsimp only)) | (k_end; kc_close) | walk1 | (dsimp only; first | ((with_reducible show wpAny _ _ (binaryOp Operator.Add (Value.int _ _) (Value.int _ _)) _ _ _); (k_here; (with_reducible show wpAny _ _ (binaryOp _ (Value.int big3 _) (Value.int _ _)) _ _ _); k_dflt (refine add_great ?_); intro _ _ _ _ _ _)) | ((with_reducible show wpAny _ _ (binaryOp Operator.Mod (Value.int _ _) (Value.int _ _)) _ _ _); (k_here; first | ((with_reducible show wpAny _ _ (binaryOp _ (Value.int _ _) (Value.int big3 _)) _ _ _); k_dflt (refine mod_big3 ?_)) | (k_dflt (refine mod_great (by assumption) ?_); intro _ _ _ _ _))) | ((with_reducible show wpAny _ _ (binaryOp Operator.Pow (Value.int _ _) (Value.int _ _)) _ _ _); (k_here; (with_reducible show wpAny _ _ (binaryOp _ (Value.int 3 _) (Value.int 2700 _)) _ _ _); k_dflt (refine pow_big3 ?_))) | ((with_reducible show wpAny _ _ (subscriptTail _ _ _ _) _ _ _); (k_here; (with_reducible show wpAny _ _ (subscriptTail _ _ (Value.ref _) (Value.int (Int.fmod _ 2) _)) _ _ _); k_dflt (refine pick2 (by with_reducible assumption) (.head _) ?_); intro _ _ _)) | ((with_reducible show wpAny _ _ (PySem.call (Value.ref _) _ _) _ _ _); (k_here; (with_reducible show wpAny _ _ (call (Value.ref 285) _ _) _ _ _); refine Hold.out ?_)) | walk1) | (leave1; (try dsimp only)))
      rename_i hJ2 oJ dJ tkJ lA hA lA1 tA d0 t0 hd0 K0 hK0 lK0 lB hB lB1 tB d1 t1 hd1 K1 hK1 lK1 KL hKL lKL hz h1' tz gr tg kg hg0 hg1 hg2 hG FG NG
      refine Hold.mk ?_
      obtain ⟨d, wt, b, bd, bw, bb, bb5, jX⟩ : ∃ (d wt : Nat → Int) (b : Nat → Nat), (∀ k < 5, 1 ≤ d k ∧ d k ≤ 7) ∧ (∀ k < 5, 0 ≤ wt k ∧ wt k ≤ 19) ∧ (∀ k < 5, k ≠ 0 → b k < k) ∧ (∀ k < 5, b k < 5) ∧ JobsUp X ys d wt b 5 :=
        ⟨_, _, _, fun k _ => jb_d _, fun k _ => jb_w _, fun k _ h0 => jb_b _ h0, fun k hk => jb_b5 _ hk, jX⟩
      have oD' := fun p hp => off1_ne (p := p) oD hp
      have n90 : ∀ p ∈ X, p.1 ≠ 90 := fun p hp => Nat.ne_of_gt (fX p hp _ (.tail _ (.tail _ (.tail _ (.tail _ (.head _))))))
      have jl90 : JL ≠ 90 := (oD' _ (List.mem_append_right _ (.tail _ (.tail _ (.tail _ (.tail _ (.head _))))))).symm
      have dc90 : DC ≠ 90 := oC.2.2.2.symm
      have kl90 : @Ne Nat KL 90 := by omega
      have k190 : @Ne Nat K1 90 := by omega
      have k090 : @Ne Nat K0 90 := by omega
      have N1 := News.sub NG (n := (90, tabObj #[]) :: (KL, _) :: (K1, _) :: (K0, _) :: (JL, _) :: (DC, _) :: (s1.heap.objs.size + 1 + 1 + 1, _) :: (s1.heap.objs.size + 1 + 1, _) :: X)
        (sub_cons (.tail _ (.tail _ (.tail _ (.tail _ (.tail _ (.tail _ (.tail _ (.tail _ (.tail _ (.tail _ (.head _))))))))))) (sub_cons (.head _) (sub_cons (.tail _ (.head _)) (sub_cons (.tail _ (.tail _ (.tail _ (.head _)))) (sub_cons (.tail _ (.tail _ (.tail _ (.tail _ (.tail _ (.head _)))))) (sub_cons (.tail _ (.tail _ (.tail _ (.tail _ (.tail _ (.tail _ (.head _))))))) (sub_cons (.tail _ (.tail _ (.tail _ (.tail _ (.tail _ (.tail _ (.tail _ (.head _)))))))) (sub_cons (.tail _ (.tail _ (.tail _ (.tail _ (.tail _ (.tail _ (.tail _ (.tail _ (.head _))))))))) (fun _ hp => .tail _ (.tail _ (.tail _ (.tail _ (.tail _ (.tail _ (.tail _ (.tail _ (.tail _ (.tail _ (.tail _ (hp))))))))))))))))))))
      clear NG
      refine blocks1_c (JL := JL) K' FG X' N1 (.inl rfl) (neAll_cons kl90 (neAll_cons k190 (neAll_cons k090 (neAll_cons jl90 (neAll_cons dc90 (neAll_cons (show @Ne Nat (s1.heap.objs.size + 1 + 1 + 1) 90 by omega) (neAll_cons (show @Ne Nat (s1.heap.objs.size + 1 + 1) 90 by omega) n90))))))) codeHd T' rfl (by decide) (by decide) (jX.all (fun _ hp => .tail _ (.tail _ (.tail _ (.tail _ (.tail _ (.tail _ (.tail _ (hp)))))))) (.tail _ (.tail _ (.tail _ (.head _))))) bd bw ?_
      intro BD oBD kB ps n1 h2 k2 dr2 F2 N2 dB tabB sub1 a90 aBD loB bd90
      have JA : JobsAt n1 JL d wt b := jX.all (fun _ hp => sub1 _ (.tail _ (.tail _ (.tail _ (.tail _ (.tail _ (.tail _ (.tail _ (hp))))))))) (sub1 _ (.tail _ (.tail _ (.tail _ (.head _)))))
      clear N1 FG jX fX n90 x3 oD oD' lK0 lK1 lKL
      have mcJ : (s1.heap.objs.size + 1 + 1 + 1, oJ) ∈ n1 := sub1 _ (.tail _ (.tail _ (.tail _ (.tail _ (.tail _ (.head _))))))
      have mcC : (s1.heap.objs.size + 1 + 1, occ) ∈ n1 := sub1 _ (.tail _ (.tail _ (.tail _ (.tail _ (.tail _ (.tail _ (.head _)))))))
      k_steps
      rename IsRange _ _ _ _ _ _ _ _ => hR
      rename Fr _ _ _ _ => F3
      rename News _ _ _ _ => N3
      refine Hold.mk (src_R1 (nn := 4) (fun i ys2 n => ∃ X2, n = X2 ++ (BD, oBD) :: (90, tabObj ps) :: n1 ∧ (∀ p ∈ X2, ∀ q ∈ (BD, oBD) :: (90, tabObj ps) :: n1, q.1 < p.1) ∧ PL X2 ys2 (pairsUp b i)) rfl F3 N3 hR (by decide) (by decide) (by rw [sizeLine_eq]; decide) ⟨[], rfl, fun _ h => (nomatch h), .nil⟩ ?_ ?_)
      · rintro s' ⟨gg2, rfl⟩ i t ys2 n I5 oI5 C5 oC5 D5 m₂ h tk E' hi ⟨X2, rfl, fX2, pX2⟩ hC hx F5 N5 off ne
        clear F3 N3 hR
        have hi1 : i + 1 < 5 := Nat.succ_lt_succ hi
        have b5 := bb5 (i + 1) hi1
        obtain ⟨vs, ep, tj, ml, hv, hvl, u1, u2, u3, mt⟩ := JA.get hi1
        have ml' : (JL, lstO vs ep) ∈ (I5, oI5) :: (C5, oC5) :: (D5, LCg.lst ys2) :: (X2 ++ (BD, oBD) :: (90, tabObj ps) :: n1) := .tail _ (.tail _ (.tail _ (List.mem_append_right _ (.tail _ (.tail _ ml)))))
        have mt' : (tj, tupO [.int (d (i + 1)) u1, .int (wt (i + 1)) u2, .int (b (i + 1) : Int) u3]) ∈ (I5, oI5) :: (C5, oC5) :: (D5, LCg.lst ys2) :: (X2 ++ (BD, oBD) :: (90, tabObj ps) :: n1) := .tail _ (.tail _ (.tail _ (List.mem_append_right _ (.tail _ (.tail _ mt)))))
        have mc' : (s1.heap.objs.size + 1 + 1 + 1, oJ) ∈ (I5, oI5) :: (C5, oC5) :: (D5, LCg.lst ys2) :: (X2 ++ (BD, oBD) :: (90, tabObj ps) :: n1) := .tail _ (.tail _ (.tail _ (List.mem_append_right _ (.tail _ (.tail _ mcJ)))))
        repeat' (first | ((with_reducible show wpAny _ _ (subscriptTail _ _ _ _) _ _ _); (k_here; k_dflt (first | refine sub_list (by with_reducible assumption) (by k_mem) (by assumption) (by omega) ?_ | (refine sub_str5 (by assumption) ?_; intro _ _)))) | (k_unfold; (try dsimp only)) | (k_end; kc_close) | walk1 | (dsimp only; first | ((with_reducible show wpAny _ _ (subscriptTail _ _ _ _) _ _ _); (k_here; k_dflt (first | refine sub_list (by with_reducible assumption) (by k_mem) (by assumption) (by omega) ?_ | (refine sub_str5 (by assumption) ?_; intro _ _)))) | walk1) | (leave1; (try dsimp only)))
        rename Fr _ _ _ _ => F7
        rename News _ _ _ _ => N7
        rename I5 < _ ∧ _ => lz
        obtain ⟨lI, lC, lD, lX⟩ := lz
        refine CTr.mk F7 (News.sub N7 (n := (I5, oI5) :: (C5, oC5) :: (D5, LCg.lst ys2) :: ((_, _) :: X2 ++ (BD, oBD) :: (90, tabObj ps) :: n1)) (sub_cons (.tail _ (.head _)) (sub_cons (.tail _ (.tail _ (.head _))) (sub_cons (.tail _ (.tail _ (.tail _ (.head _)))) (sub_cons (.head _) (fun _ hp => .tail _ (.tail _ (.tail _ (.tail _ (hp)))))))))) ⟨⟨Nat.ne_of_gt lI, Nat.ne_of_gt lC, Nat.ne_of_gt lD⟩, off⟩ ⟨(_, _) :: X2, rfl, ?_, ?_⟩
        · intro p hp
          rcases List.mem_cons.mp hp with rfl | hp
          · exact fun q' hq' => of_allLt lX q' (List.mem_append_right _ hq')
          · exact fX2 p hp
        · rw [pairsUp_snoc]
          exact pX2.snoc (fun _ hp => .tail _ hp) (.head _)
      · rintro gg2 ys2 n ⟨X2, rfl, fX2, pX2⟩
        clear F3 N3 hR
        rw [pairsUp_four] at pX2
        have eOff : ∀ {PA : Addr}, LCg.Off1 PA (X2 ++ (BD, oBD) :: (90, tabObj ps) :: n1) → ∀ p ∈ (BD, oBD) :: (90, tabObj ps) :: (n1 ++ X2), p.1 ≠ PA := fun h p hp => off1_ne h (by
          rcases List.mem_cons.mp hp with rfl | hp
          · exact List.mem_append_right _ (.head _)
          · rcases List.mem_cons.mp hp with rfl | hp
            · exact List.mem_append_right _ (.tail _ (.head _))
            · rcases List.mem_append.mp hp with hp | hp
              · exact List.mem_append_right _ (.tail _ (.tail _ hp))
              · exact List.mem_append_left _ hp)
        have sOff : ∀ {PA : Addr} {o : Obj}, ∀ p ∈ (PA, o) :: (BD, oBD) :: (90, tabObj ps) :: (n1 ++ X2), p ∈ (PA, o) :: (X2 ++ (BD, oBD) :: (90, tabObj ps) :: n1) := by
          intro PA o p hp
          rcases List.mem_cons.mp hp with rfl | hp
          · exact .head _
          · refine .tail _ ?_
            rcases List.mem_cons.mp hp with rfl | hp
            · exact List.mem_append_right _ (.head _)
            · rcases List.mem_cons.mp hp with rfl | hp
              · exact List.mem_append_right _ (.tail _ (.head _))
              · rcases List.mem_append.mp hp with hp | hp
                · exact List.mem_append_right _ (.tail _ (.tail _ hp))
                · exact List.mem_append_left _ hp
        unfold LCg.FinA
        intro PA hPA kPA F9 N9 oP
        dsimp only
        have NP := News.sub N9 sOff
        have PAn := eOff oP
        clear N9 sOff eOff oP
        have mcC' : (s1.heap.objs.size + 1 + 1, occ) ∈ (PA, LCg.lst ys2) :: (BD, oBD) :: (90, tabObj ps) :: (n1 ++ X2) := .tail _ (.tail _ (.tail _ (List.mem_append_left _ mcC)))
        have mDC' : (DC, LCg.lst [.int (c 0) (tc 0), .int (c 1) (tc 1), .int (c 2) (tc 2), .int (c 3) (tc 3), .int (c 4) (tc 4), .int (c 5) (tc 5), .int (c 6) (tc 6)]) ∈ (PA, LCg.lst ys2) :: (BD, oBD) :: (90, tabObj ps) :: (n1 ++ X2) := .tail _ (.tail _ (.tail _ (List.mem_append_left _ (sub1 _ (.tail _ (.tail _ (.tail _ (.tail _ (.head _)))))))))
        have hc6 : [Value.int (c 0) (tc 0), .int (c 1) (tc 1), .int (c 2) (tc 2), .int (c 3) (tc 3), .int (c 4) (tc 4), .int (c 5) (tc 5), .int (c 6) (tc 6)][6]? = some (.int (c 6) (tc 6)) := rfl
        repeat' (first | ((with_reducible show wpAny _ _ (subscriptTail _ _ _ _) _ _ _); (k_here; (with_reducible show wpAny _ _ (subscriptTail _ _ (Value.ref _) (Value.int 6 _)) _ _ _); k_dflt (refine sub_cell6 (by with_reducible assumption) (by assumption) (by assumption) ?_))) | ((with_reducible show wpAny _ _ (binaryOp Operator.Mod (Value.int _ _) (Value.int _ _)) _ _ _); (k_here; first | ((with_reducible show wpAny _ _ (binaryOp _ (Value.int _ _) (Value.int big3 _)) _ _ _); k_dflt (refine mod_big3 ?_)) | (k_dflt (refine mod_great (by assumption) ?_); intro _ _ _ _ _))) | ((with_reducible show wpAny _ _ (PySem.call (Value.ref _) _ _) _ _ _); (k_here; (with_reducible show wpAny _ _ (call (Value.ref 290) _ _) _ _ _); refine Hold.out ?_)) | (k_unfold; (try dsimp only)) | (k_end; kc_close) | walk1 | (dsimp only; first | ((with_reducible show wpAny _ _ (subscriptTail _ _ _ _) _ _ _); (k_here; (with_reducible show wpAny _ _ (subscriptTail _ _ (Value.ref _) (Value.int 6 _)) _ _ _); k_dflt (refine sub_cell6 (by with_reducible assumption) (by assumption) (by assumption) ?_))) | ((with_reducible show wpAny _ _ (binaryOp Operator.Mod (Value.int _ _) (Value.int _ _)) _ _ _); (k_here; first | ((with_reducible show wpAny _ _ (binaryOp _ (Value.int _ _) (Value.int big3 _)) _ _ _); k_dflt (refine mod_big3 ?_)) | (k_dflt (refine mod_great (by assumption) ?_); intro _ _ _ _ _))) | ((with_reducible show wpAny _ _ (PySem.call (Value.ref _) _ _) _ _ _); (k_here; (with_reducible show wpAny _ _ (call (Value.ref 290) _ _) _ _ _); refine Hold.out ?_)) | walk1) | (leave1; (try dsimp only)))
        rename_i lo tl kl hlo hlo2
        have BDn : ∀ p ∈ (90, tabObj ps) :: (n1 ++ X2), p.1 ≠ BD := by
          intro p hp
          rcases List.mem_cons.mp hp with rfl | hp
          · exact bd90.symm
          · rcases List.mem_append.mp hp with hp | hp
            · exact aBD p hp
            · exact Nat.ne_of_gt (fX2 p hp _ (.head _))
        refine Hold.mk (glued_c (news := (90, tabObj ps) :: (n1 ++ X2)) K' F9 X' NP T' rfl (by decide) (by decide) bd bw bb dB (tabB.mono fun _ _ _ h => h.mono fun _ hp => .tail _ (List.mem_append_left _ hp)) loB PAn BDn
          (pX2.mono fun _ hp => .tail _ (List.mem_append_right _ hp)) (.tail _ (List.mem_append_left _ (sub1 _ (.head _)))) (.tail _ (List.mem_append_left _ (sub1 _ (.tail _ (.tail _ (.head _)))))) (.tail _ (List.mem_append_left _ (sub1 _ (.tail _ (.head _))))) hd0 hd1 hlo hlo2 hg1 hg2 ?_)
        intro S TG vG tG n3 h3 k3 dr3 G3 Se F10 N10 sub3 ltG blkG
        have s3 : ∀ p ∈ n1, p ∈ n3 := fun p hp => sub3 _ (.tail _ (List.mem_append_left _ hp))
        obtain ⟨fe, hl5, hcost⟩ := G3.last bb Se
        have m90 : (90, tabObj ps) ∈ n3 := sub3 _ (.head _)
        have JA3 : JobsAt ((TG, tupO [vG, .str (rowStr (S.row 0)) tG]) :: n3) JL d wt b := JA.mono fun _ hp => .tail _ (s3 _ hp)
        have mc3 : (s1.heap.objs.size + 1 + 1 + 1, oJ) ∈ (TG, tupO [vG, .str (rowStr (S.row 0)) tG]) :: n3 := .tail _ (s3 _ mcJ)
        have mTG : (TG, tupO [vG, .str (rowStr (S.row 0)) tG]) ∈ (TG, tupO [vG, .str (rowStr (S.row 0)) tG]) :: n3 := .head _
        clear F9 NP mcC' mDC' hc6 fX2 pX2 PAn BDn tabB
        repeat' (first | ((with_reducible show wpAny _ _ (PySem.call (Value.ref _) _ _) _ _ _); (k_here; (with_reducible show wpAny _ _ (call (Value.ref 302) _ _) _ _ _); refine Hold.out ?_)) | (k_unfold; (try dsimp only)) | (k_end; kc_close) | walk1 | (dsimp only; first | ((with_reducible show wpAny _ _ (PySem.call (Value.ref _) _ _) _ _ _); (k_here; (with_reducible show wpAny _ _ (call (Value.ref 302) _ _) _ _ _); refine Hold.out ?_)) | walk1) | (leave1; (try dsimp only)))
        rename Fr _ _ _ _ => F11
        rename News _ _ _ _ => N11
        refine Hold.mk (told_c K' F11 X' N11 T' rfl (by decide) (by decide) JA3 bd bw bb5 fe (Nat.le_of_eq hl5) ?_)
        intro r D oD kD t1' t2' t3' t4' h4 k4 dr4 F12 N12 ltD ltr loD dD cvD
        clear F11 N11
        rw [runF_is] at N12 cvD
        dsimp only at N12 cvD
        rw [Int.zero_add, Int.zero_add] at N12
        rw [List.nil_append] at cvD
        obtain ⟨T1, D1, o1, kD1, a1, a2, a3, a4, rfl, mT1, mD1, loD1, dD1, cvD1⟩ := blkG
        have mr4 : (r, tupO [.int 5 t1', .int (durL d (S.row 0)) t2', .int [wt 0, wt 1, wt 2, wt 3, wt 4].sum t3', .int (costF d wt 0 (S.row 0)) t4', .ref D]) ∈ (r, tupO [.int 5 t1', .int (durL d (S.row 0)) t2', .int [wt 0, wt 1, wt 2, wt 3, wt 4].sum t3', .int (costF d wt 0 (S.row 0)) t4', .ref D]) :: (D, oD) :: (TG, tupO [.ref T1, .str (rowStr (S.row 0)) tG]) :: n3 := .head _
        have mG4 := List.Mem.tail (r, tupO [.int 5 t1', .int (durL d (S.row 0)) t2', .int [wt 0, wt 1, wt 2, wt 3, wt 4].sum t3', .int (costF d wt 0 (S.row 0)) t4', .ref D]) (.tail (D, oD) mTG)
        have m14 := List.Mem.tail (r, tupO [.int 5 t1', .int (durL d (S.row 0)) t2', .int [wt 0, wt 1, wt 2, wt 3, wt 4].sum t3', .int (costF d wt 0 (S.row 0)) t4', .ref D]) (.tail (D, oD) (.tail (TG, tupO [.ref T1, .str (rowStr (S.row 0)) tG]) mT1))
        repeat' (first | ((with_reducible show wpAny _ _ (compareOp CmpOp.NotEq (Value.ref _) (Value.ref _)) _ _ _); (k_here; refine Hold.out ?_)) | (k_unfold; (try dsimp only)) | (k_end; kc_close) | walk1 | (dsimp only; first | ((with_reducible show wpAny _ _ (compareOp CmpOp.NotEq (Value.ref _) (Value.ref _)) _ _ _); (k_here; refine Hold.out ?_)) | walk1) | (leave1; (try dsimp only)))
        rename Fr _ _ _ _ => F13
        rename News _ _ _ _ => N13
        have hD1 : D1 ≠ D := Nat.ne_of_lt (ltD _ (.tail _ mD1))
        refine Hold.mk (ne_block N13 m14 mr4 (.tail _ (.tail _ (.tail _ mD1))) (.tail _ (.head _)) dD1 dD loD1 loD cvD1 cvD hD1 (by rw [hl5]; rfl) rfl (durL_row fe hl5) rfl (by rw [units_deeper]; decide) ?_)
        repeat' (first | ((with_reducible show wpAny _ _ (PySem.call (Value.type "list") _ _) _ _ _); (k_here; refine Hold.out ?_)) | (k_unfold; (try dsimp only)) | (k_end; kc_close) | walk1 | (dsimp only; first | ((with_reducible show wpAny _ _ (PySem.call (Value.type "list") _ _) _ _ _); (k_here; refine Hold.out ?_)) | walk1) | (leave1; (try dsimp only)))
        rename Fr _ _ _ _ => F14
        rename News _ _ _ _ => N14
        refine Hold.mk (list_keys_c rfl F14 N14 (.tail _ (.tail _ (.tail _ mD1))) dD1 loD1 cvD1 (by rw [untilF_len, hl5]; decide) ?_)
        intro B1 c1' h5 k5 vs1 sl1 F15 N15 lB1
        rw [untilF_keys] at sl1
        clear F14 N14
        have mG5 := List.Mem.tail (B1, lstO vs1 c1') mG4
        repeat' (first | ((with_reducible show wpAny _ _ (PySem.call (Value.type "list") _ _) _ _ _); (k_here; refine Hold.out ?_)) | (k_unfold; (try dsimp only)) | (k_end; kc_close) | walk1 | (dsimp only; first | ((with_reducible show wpAny _ _ (PySem.call (Value.type "list") _ _) _ _ _); (k_here; refine Hold.out ?_)) | walk1) | (leave1; (try dsimp only)))
        rename Fr _ _ _ _ => F16
        rename News _ _ _ _ => N16
        refine Hold.mk (list_row_c rfl F16 N16 (by rw [hl5]; decide) ?_)
        intro B2 c2' h6 k6 vs2 sl2 F17 N17
        clear F16 N16
        repeat' (first | ((with_reducible show wpAny _ _ (compareOp CmpOp.NotEq (Value.ref _) (Value.ref _)) _ _ _); (k_here; refine Hold.out ?_)) | (k_unfold; (try dsimp only)) | (k_end; kc_close) | walk1 | (dsimp only; first | ((with_reducible show wpAny _ _ (compareOp CmpOp.NotEq (Value.ref _) (Value.ref _)) _ _ _); (k_here; refine Hold.out ?_)) | walk1) | (leave1; (try dsimp only)))
        rename Fr _ _ _ _ => F18
        rename News _ _ _ _ => N18
        refine Hold.mk (ne_SL N18 (.tail _ (.head _)) sl1 (.head _) sl2 (fun x hx => by
          obtain ⟨k, hk, rfl⟩ := List.mem_map.mp hx
          exact (okS_letter (fe_lt _ [] fe k hk)).1) (by rw [units_deeper]; decide) ?_)
        have mr6 := List.Mem.tail (B2, lstO vs2 c2') (.tail (B1, lstO vs1 c1') mr4)
        have mc6 := List.Mem.tail (B2, lstO vs2 c2') (.tail (B1, lstO vs1 c1') (.tail (r, tupO [.int 5 t1', .int (durL d (S.row 0)) t2', .int [wt 0, wt 1, wt 2, wt 3, wt 4].sum t3', .int (costF d wt 0 (S.row 0)) t4', .ref D]) (.tail (D, oD) mc3)))
        repeat' (first | ((with_reducible show wpAny _ _ (PySem.call (Value.ref _) _ _) _ _ _); (k_here; (with_reducible show wpAny _ _ (call (Value.ref 297) _ _) _ _ _); refine Hold.out ?_)) | (k_unfold; (try dsimp only)) | (k_end; kc_close) | walk1 | (dsimp only; first | ((with_reducible show wpAny _ _ (PySem.call (Value.ref _) _ _) _ _ _); (k_here; (with_reducible show wpAny _ _ (call (Value.ref 297) _ _) _ _ _); refine Hold.out ?_)) | walk1) | (leave1; (try dsimp only)))
        rename Fr _ _ _ _ => F19
        rename News _ _ _ _ => N19
        refine Hold.mk (least_c bd bw bb5 5 K' F19 X' N19 T' rfl (by decide) (by decide) (JA3.mono fun _ hp => .tail _ (.tail _ (.tail _ (.tail _ (.tail _ hp))))) [] (.head _) .nil rfl .nil (fun _ h => nomatch h) (by decide) (by decide) ?_)
        intro tLq h7 k7 dr7 F20 N20
        rw [hcost]
        clear F19 N19
        have m90' := List.Mem.tail (B1, lstO vs1 c1') (.tail (r, tupO [.int 5 t1', .int (durL d (S.row 0)) t2', .int [wt 0, wt 1, wt 2, wt 3, wt 4].sum t3', .int (costF d wt 0 (S.row 0)) t4', .ref D]) (.tail (D, oD) (.tail (TG, tupO [.ref T1, .str (rowStr (S.row 0)) tG]) m90)))
        k_steps
        refine hQW _ _ ?_
        k_steps)
end Mine

end
end
end
theorem PySem.Challenge.cw_wy0045_01_holds : PySem.Challenge.rw_wy0045_01.Holds :=
  Mine.lawT
