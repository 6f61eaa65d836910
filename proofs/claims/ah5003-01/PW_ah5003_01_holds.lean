import PyProof.Rows.All
import Wide.All
import OpenK.AllK
import Wide.FinOn
import PySem.Challenge.RW_ah5003_01
set_option Elab.async false
set_option maxRecDepth 100000
section
open PySem PySem.W PyProof.Rows
set_option maxHeartbeats 8000000
namespace Mine
open_top hd for PySem.Challenge.rw_ah5003_01
end Mine
end
section
open PySem PySem.W PySem.Spec PySem.Calls PyProof.Rows
set_option maxHeartbeats 8000000
namespace Mine
noncomputable abbrev LS : List Str := looseW hd.view_39 [Str.ofString "round_fast", Str.ofString "fzero", Str.ofString "fnan", Str.ofString "finf", Str.ofString "fninf",
      Str.ofString "shifts_down", Str.ofString "from_man_exp", Str.ofString "from_int", Str.ofString "from_rational",
      Str.ofString "mpf_mul", Str.ofString "mpf_mul_int", Str.ofString "mpf_div", Str.ofString "mpf_rdiv_int"]
inductive Md where
  | n | f | c | d | u
def Md.str : Md → Str
  | .n => Str.ofString "n" | .f => Str.ofString "f" | .c => Str.ofString "c" | .d => Str.ofString "d" | .u => Str.ofString "u"
abbrev bl (m : Nat) : Nat := Builtin.Int.intBits (m : Int)
abbrev tup4 (a b c d : Int) (t1 t2 t3 t4 : Tok) (k : Nat) : Obj := { cls := .type "tuple", data := .seq #[.int a t1, .int b t2, .int c t3, .int d t4] k }
/-- the end of a statement that is cut off: what it leaves -/
def CutEnd {σ : Type} (h₀ : Heap) (L : Addr) (led : σ → List (Addr × Obj)) (ps : σ → List (Str × Value)) (P : σ → Prop) (s : Shared) (f : Flow) (s' : Shared) : Prop :=
  f = .next ∧ ∃ c m' news' h tk, s' = { s with heap := h, toks := tk } ∧ Fr h₀ L h m' ∧ News h₀ L h news' ∧ (∀ p ∈ led c, p ∈ news') ∧ (∀ p ∈ ps c, m' p.1 = some p.2) ∧ P c
theorem CutEnd.intro {σ : Type} {h₀ : Heap} {L : Addr} {led : σ → List (Addr × Obj)} {ps : σ → List (Str × Value)} {P : σ → Prop} {s : Shared} (c : σ) {m' : Str → Option Value} {news' : List (Addr × Obj)} {h : Heap} {tk : Nat}
    (F : Fr h₀ L h m') (N : News h₀ L h news') (hl : ∀ p ∈ led c, p ∈ news') (hp : ∀ p ∈ ps c, m' p.1 = some p.2) (hP : P c) : CutEnd h₀ L led ps P s .next { s with heap := h, toks := tk } :=
  ⟨rfl, c, m', news', h, tk, rfl, F, N, hl, hp, hP⟩
theorem execs_cut {σ : Type} {M : Model} {A : Around} {E : Value → Shared → Prop} {s : Shared} {env : Env} {h₀ : Heap} {L : Addr} {st : Stmt} {rest : List Stmt} {Q : Flow → Shared → Prop}
    {m : Str → Option Value} (led : σ → List (Addr × Obj)) (ps : σ → List (Str × Value)) (P : σ → Prop) (_F : Fr h₀ L s.heap m)
    (h1 : wpAny M A (exec st env) (CutEnd h₀ L led ps P s) E s)
    (h2 : ∀ c m' h tk, P c → Fr h₀ L h (kstB m' (ps c)) → News h₀ L h (led c) → wpAny M A (execs rest env) Q E { s with heap := h, toks := tk }) : wpAny M A (execs (st :: rest) env) Q E s := by
  refine wpAny_execs_cons (wpAny_mono h1 (fun f s' q => ?_) fun _ _ x => x)
  obtain ⟨rfl, c, m', news', h, tk, rfl, F, N, hl, hp, hP⟩ := q
  have em : kstB m' (ps c) = m' := funext fun y => kstB_eq hp fun _ => rfl
  exact h2 c m' h tk hP (em.symm ▸ F) fun p hp => N p (hl p hp)
theorem isTrue_cut {M : Model} {A : Around} {E : Value → Shared → Prop} {s : Shared} {t : Sem Bool} {Q : Bool → Shared → Prop} (b : Bool)
    (h1 : wpAny M A t (fun v s' => v = b ∧ ∃ tk, s' = { s with toks := tk }) E s) (h2 : ∀ tk, Q b { s with toks := tk }) : wpAny M A t Q E s := by
  refine wpAny_mono h1 (fun v s' q => ?_) fun _ _ x => x
  obtain ⟨rfl, tk, rfl⟩ := q
  exact h2 tk
theorem ite_ne0 {x : Int} {p q : Prop} (h1 : x ≠ 0 → p) (h2 : x = 0 → q) : if (x != 0) = true then p else q := by
  by_cases h : x = 0
  · rw [if_neg (by simp [h])]; exact h2 h
  · rw [if_pos (by simp [h])]; exact h1 h
theorem ite_dec {c : Prop} [Decidable c] {p q : Prop} (h1 : c → p) (h2 : ¬ c → q) : if (decide c) = true then p else q := by
  by_cases h : c
  · rw [if_pos (by simp [h])]; exact h1 h
  · rw [if_neg (by simp [h])]; exact h2 h
theorem ite_beq {x y : Int} {p q : Prop} (h1 : x = y → p) (h2 : x ≠ y → q) : if (x == y) = true then p else q := by
  by_cases h : x = y
  · rw [if_pos (by simp [h])]; exact h1 h
  · rw [if_neg (by simp [h])]; exact h2 h
end Mine
end
section
open PySem PySem.W PySem.Spec PySem.Calls PyProof.Rows
set_option maxHeartbeats 800000
namespace Mine
/-! bit lengths -/
theorem bl_le {m k : Nat} : bl m ≤ k ↔ m < 2 ^ k := by
  have := @PySem.intBits_le_iff k (m : Int)
  simpa using this
theorem lt_bl {m k : Nat} : k < bl m ↔ 2 ^ k ≤ m := by
  have := @bl_le m k
  omega
theorem bl_lt (m : Nat) : m < 2 ^ bl m := bl_le.mp (Nat.le_refl _)
theorem bl_ge {m : Nat} (h : 0 < m) : 2 ^ (bl m - 1) ≤ m ∧ 0 < bl m := by
  have h1 : 0 < bl m := lt_bl.mpr (by rw [Nat.pow_zero]; exact h)
  exact ⟨lt_bl.mp (by omega), h1⟩
theorem bl_eq {m k : Nat} (h1 : 2 ^ k ≤ m) (h2 : m < 2 ^ (k + 1)) : bl m = k + 1 := by
  have := lt_bl.mpr h1
  have := bl_le.mpr h2
  omega
theorem bl_mul {m : Nat} (k : Nat) (h : 0 < m) : bl (m * 2 ^ k) = bl m + k := by
  obtain ⟨h1, h2⟩ := bl_ge h
  have h3 := bl_lt m
  have e : bl m + k = (bl m - 1 + k) + 1 := by omega
  rw [e]
  refine bl_eq ?_ ?_
  · rw [Nat.pow_add]; exact Nat.mul_le_mul_right _ h1
  · rw [show bl m - 1 + k + 1 = bl m + k by omega, Nat.pow_add]; exact Nat.mul_lt_mul_of_pos_right h3 (Nat.two_pow_pos k)
/-! trailing zeros -/
def v2 (m : Nat) : Nat := if h : m = 0 ∨ m % 2 = 1 then 0 else v2 (m / 2) + 1
  termination_by m
  decreasing_by omega
abbrev cm (m : Nat) : Nat := m / 2 ^ v2 m
theorem v2_odd {m : Nat} (h : m % 2 = 1) : v2 m = 0 := by rw [v2, dif_pos (Or.inr h)]
theorem v2_two {m : Nat} (h : 0 < m) : v2 (m * 2) = v2 m + 1 := by
  rw [v2, dif_neg (by omega), Nat.mul_div_cancel _ (by decide)]
theorem v2_pow {m : Nat} (h : 0 < m) : ∀ k, v2 (m * 2 ^ k) = v2 m + k
  | 0 => by simp
  | k + 1 => by
    rw [Nat.pow_succ, ← Nat.mul_assoc, v2_two (Nat.mul_pos h (Nat.two_pow_pos k)), v2_pow h k]; omega
theorem cm_pow {m : Nat} (h : 0 < m) (k : Nat) : cm (m * 2 ^ k) = cm m := by
  unfold cm
  rw [v2_pow h, Nat.pow_add, Nat.mul_div_mul_right _ _ (Nat.two_pow_pos k)]
theorem v2_spec (m : Nat) (h : 0 < m) : cm m * 2 ^ v2 m = m ∧ cm m % 2 = 1 := by
  induction m using Nat.strongRecOn with
  | ind m ih =>
    by_cases ho : m % 2 = 1
    · simp [cm, v2_odd ho, ho]
    · have hm : m = (m / 2) * 2 := by omega
      have hp : 0 < m / 2 := by omega
      have i := ih (m / 2) (by omega) hp
      have e1 : cm m = cm (m / 2) := by
        have := cm_pow hp 1
        rw [Nat.pow_one, ← hm] at this
        exact this
      have e2 : v2 m = v2 (m / 2) + 1 := by
        have := v2_two hp
        rw [← hm] at this
        exact this
      rw [e1, e2, Nat.pow_succ, ← Nat.mul_assoc, i.1]
      exact ⟨hm.symm, i.2⟩
theorem cm_pos {m : Nat} (h : 0 < m) : 0 < cm m := by
  have := (v2_spec m h).2
  omega
theorem bl_cm {m : Nat} (h : 0 < m) : bl m = bl (cm m) + v2 m := by
  have e := (v2_spec m h).1
  have := bl_mul (v2 m) (cm_pos h)
  rw [e] at this
  exact this
/-! rounding -/
def RM (md : Md) (sg : Int) (A B : Nat) : Nat :=
  match md with
  | .d => A / B
  | .u => if A % B = 0 then A / B else A / B + 1
  | .f => if sg = 1 ∧ A % B ≠ 0 then A / B + 1 else A / B
  | .c => if sg = 0 ∧ A % B ≠ 0 then A / B + 1 else A / B
  | .n => if B < 2 * (A % B) ∨ (2 * (A % B) = B ∧ A / B % 2 = 1) then A / B + 1 else A / B
theorem RM_ge (md : Md) (sg : Int) (A B : Nat) : A / B ≤ RM md sg A B := by
  cases md <;> simp only [RM] <;> (try split) <;> omega
theorem RM_le (md : Md) (sg : Int) (A B : Nat) : RM md sg A B ≤ A / B + 1 := by
  cases md <;> simp only [RM] <;> (try split) <;> omega
theorem ratio {A B A' B' : Nat} (hB : 0 < B) (hB' : 0 < B') (h : A * B' = A' * B) : A / B = A' / B' ∧ A % B * B' = A' % B' * B := by
  have q : A / B = A' / B' := by
    have e1 : A / B = A * B' / (B * B') := (Nat.mul_div_mul_right _ _ hB').symm
    have e2 : A' / B' = A' * B / (B' * B) := (Nat.mul_div_mul_right _ _ hB).symm
    rw [e1, e2, h, Nat.mul_comm B B']
  refine ⟨q, ?_⟩
  have a1 := Nat.div_add_mod A B
  have a2 := Nat.div_add_mod A' B'
  have b1 : (B * (A / B) + A % B) * B' = (B' * (A' / B') + A' % B') * B := by rw [a1, a2, h]
  rw [Nat.add_mul, Nat.add_mul, ← q] at b1
  have c : B * (A / B) * B' = B' * (A / B) * B := by
    rw [Nat.mul_comm B, Nat.mul_assoc, Nat.mul_comm B B', ← Nat.mul_assoc, Nat.mul_comm (A / B) B']
  omega
theorem RM_ratio {md : Md} {sg : Int} {A B A' B' : Nat} (hB : 0 < B) (hB' : 0 < B') (h : A * B' = A' * B) : RM md sg A B = RM md sg A' B' := by
  obtain ⟨q, r⟩ := ratio hB hB' h
  have z : A % B = 0 ↔ A' % B' = 0 := by
    constructor
    · intro e; rw [e, Nat.zero_mul] at r
      exact (Nat.mul_eq_zero.mp r.symm).resolve_right (by omega)
    · intro e; rw [e, Nat.zero_mul] at r
      exact (Nat.mul_eq_zero.mp r).resolve_right (by omega)
  have l : B < 2 * (A % B) ↔ B' < 2 * (A' % B') := by
    have e1 : B < 2 * (A % B) ↔ B * B' < 2 * (A % B) * B' := ⟨fun x => Nat.mul_lt_mul_of_pos_right x hB', fun x => Nat.lt_of_mul_lt_mul_right x⟩
    have e2 : B' < 2 * (A' % B') ↔ B' * B < 2 * (A' % B') * B := ⟨fun x => Nat.mul_lt_mul_of_pos_right x hB, fun x => Nat.lt_of_mul_lt_mul_right x⟩
    rw [e1, e2, Nat.mul_assoc, r, Nat.mul_assoc, Nat.mul_comm B B']
  have m : 2 * (A % B) = B ↔ 2 * (A' % B') = B' := by
    have e1 : 2 * (A % B) = B ↔ 2 * (A % B) * B' = B * B' := ⟨fun x => by rw [x], fun x => Nat.eq_of_mul_eq_mul_right hB' x⟩
    have e2 : 2 * (A' % B') = B' ↔ 2 * (A' % B') * B = B' * B := ⟨fun x => by rw [x], fun x => Nat.eq_of_mul_eq_mul_right hB x⟩
    rw [e1, e2, Nat.mul_assoc, r, Nat.mul_assoc, Nat.mul_comm B B']
  cases md <;> simp only [RM, q, z, l, m, ne_eq]
theorem RM_one (md : Md) (sg : Int) (A : Nat) : RM md sg A 1 = A := by
  cases md <;> simp [RM, Nat.mod_one]
theorem RM_pos {md : Md} {sg : Int} {A B : Nat} (h : 0 < A / B) : 0 < RM md sg A B := Nat.lt_of_lt_of_le h (RM_ge ..)
/-! the window -/
abbrev up (x : Nat) (e : Int) : Nat := x * 2 ^ e.toNat
abbrev wh (N D : Nat) (e : Int) : Nat := up N (-e) / up D e
theorem up_pos {x : Nat} (h : 0 < x) (e : Int) : 0 < up x e := Nat.mul_pos h (Nat.two_pow_pos _)
theorem wh_succ (N D : Nat) (_hD : 0 < D) (e : Int) : wh N D (e + 1) = wh N D e / 2 := by
  unfold wh up
  by_cases h : 0 ≤ e
  · have e1 : (-(e + 1)).toNat = 0 := by omega
    have e2 : (-e).toNat = 0 := by omega
    have e3 : (e + 1).toNat = e.toNat + 1 := by omega
    rw [e1, e2, e3, Nat.pow_succ, ← Nat.mul_assoc, Nat.div_div_eq_div_mul]
  · have e1 : (-e).toNat = (-(e + 1)).toNat + 1 := by omega
    have e2 : e.toNat = 0 := by omega
    have e3 : (e + 1).toNat = 0 := by omega
    rw [e1, e2, e3, Nat.div_div_eq_div_mul, Nat.pow_succ, ← Nat.mul_assoc, Nat.pow_zero, Nat.mul_one, Nat.mul_div_mul_right _ _ (by decide)]
theorem wh_add (N D : Nat) (hD : 0 < D) (e : Int) : ∀ k : Nat, wh N D (e + k) = wh N D e / 2 ^ k
  | 0 => by simp
  | k + 1 => by
    have h := wh_succ N D hD (e + k)
    rw [show e + ((k + 1 : Nat) : Int) = e + k + 1 by omega, h, wh_add N D hD e k, Nat.div_div_eq_div_mul, Nat.pow_succ]
theorem wh_uniq {N D p : Nat} (hD : 0 < D) {e e' : Int} (h1 : 2 ^ p ≤ wh N D e) (h2 : wh N D e < 2 ^ (p + 1)) (h1' : 2 ^ p ≤ wh N D e') (h2' : wh N D e' < 2 ^ (p + 1)) : e = e' := by
  have key : ∀ a b : Int, a < b → 2 ^ p ≤ wh N D b → 2 ^ (p + 1) ≤ wh N D a := by
    intro a b hab hb
    obtain ⟨k, hk⟩ : ∃ k : Nat, b = a + ((k + 1 : Nat) : Int) := ⟨(b - a).toNat - 1, by omega⟩
    rw [hk, wh_add N D hD a (k + 1)] at hb
    have h3 : 2 ^ p * 2 ^ (k + 1) ≤ wh N D a := (Nat.le_div_iff_mul_le (Nat.two_pow_pos _)).mp hb
    have h4 : 2 ^ p * 2 ^ 1 ≤ 2 ^ p * 2 ^ (k + 1) := Nat.mul_le_mul_left _ (Nat.pow_le_pow_right (by decide) (by omega))
    rw [Nat.pow_succ]
    omega
  rcases Int.lt_trichotomy e e' with h | h | h
  · have := key e e' h h1'; omega
  · exact h
  · have := key e' e h h1; omega
abbrev E0 (N D p : Nat) : Int := (bl N : Int) - bl D - p
def EE (N D p : Nat) : Int := if wh N D (E0 N D p) < 2 ^ p then E0 N D p else E0 N D p + 1
theorem wh0 {N D p : Nat} (hN : 0 < N) (hD : 0 < D) (hp : 0 < p) : 2 ^ (p - 1) ≤ wh N D (E0 N D p) ∧ wh N D (E0 N D p) < 2 ^ (p + 1) := by
  obtain ⟨n1, n2⟩ := bl_ge hN
  obtain ⟨d1, d2⟩ := bl_ge hD
  have n3 := bl_lt N
  have d3 := bl_lt D
  have hU := up_pos hD (E0 N D p)
  constructor
  · refine (Nat.le_div_iff_mul_le hU).mpr ?_
    unfold up
    have s1 : 2 ^ (p - 1) * (D * 2 ^ (E0 N D p).toNat) ≤ 2 ^ (p - 1) * (2 ^ bl D * 2 ^ (E0 N D p).toNat) := Nat.mul_le_mul_left _ (Nat.mul_le_mul_right _ (Nat.le_of_lt d3))
    have s2 : 2 ^ (bl N - 1) * 2 ^ (-(E0 N D p)).toNat ≤ N * 2 ^ (-(E0 N D p)).toNat := Nat.mul_le_mul_right _ n1
    have s3 : 2 ^ (p - 1) * (2 ^ bl D * 2 ^ (E0 N D p).toNat) = 2 ^ (bl N - 1) * 2 ^ (-(E0 N D p)).toNat := by
      rw [← Nat.pow_add, ← Nat.pow_add, ← Nat.pow_add]
      congr 1
      unfold E0
      omega
    omega
  · refine (Nat.div_lt_iff_lt_mul hU).mpr ?_
    unfold up
    have s1 : N * 2 ^ (-(E0 N D p)).toNat < 2 ^ bl N * 2 ^ (-(E0 N D p)).toNat := Nat.mul_lt_mul_of_pos_right n3 (Nat.two_pow_pos _)
    have s2 : 2 ^ (p + 1) * (2 ^ (bl D - 1) * 2 ^ (E0 N D p).toNat) ≤ 2 ^ (p + 1) * (D * 2 ^ (E0 N D p).toNat) := Nat.mul_le_mul_left _ (Nat.mul_le_mul_right _ d1)
    have s3 : 2 ^ bl N * 2 ^ (-(E0 N D p)).toNat = 2 ^ (p + 1) * (2 ^ (bl D - 1) * 2 ^ (E0 N D p).toNat) := by
      rw [← Nat.pow_add, ← Nat.pow_add, ← Nat.pow_add]
      congr 1
      unfold E0
      omega
    omega
theorem EE_win {N D p : Nat} (hN : 0 < N) (hD : 0 < D) (hp : 0 < p) : 2 ^ (p - 1) ≤ wh N D (EE N D p) ∧ wh N D (EE N D p) < 2 ^ p := by
  obtain ⟨h1, h2⟩ := wh0 hN hD hp
  unfold EE
  split
  · exact ⟨h1, by assumption⟩
  · rename_i h
    rw [wh_succ N D hD]
    obtain ⟨k, rfl⟩ : ∃ k, p = k + 1 := ⟨p - 1, by omega⟩
    simp only [Nat.pow_succ, Nat.add_sub_cancel] at h h2 ⊢
    omega
/-- the spec's answer: mantissa, exponent, its bits -/
def LR (md : Md) (sg : Int) (N D p : Nat) : Nat × Int :=
  (RM md sg (up N (-(EE N D p))) (up D (EE N D p)), EE N D p)
theorem LR_of {md : Md} {sg : Int} {N D p A B : Nat} {E : Int} (hN : 0 < N) (hD : 0 < D) (hp : 0 < p) (hB : 0 < B)
    (hr : up N (-E) * B = A * up D E) (h1 : 2 ^ (p - 1) ≤ A / B) (h2 : A / B < 2 ^ p) : LR md sg N D p = (RM md sg A B, E) := by
  obtain ⟨q, _⟩ := ratio (up_pos hD E) hB hr
  obtain ⟨k, rfl⟩ : ∃ k, p = k + 1 := ⟨p - 1, by omega⟩
  obtain ⟨w1, w2⟩ := EE_win hN hD hp
  have e : EE N D (k + 1) = E := wh_uniq (p := k) hD w1 w2 (by unfold wh; rw [q]; exact h1) (by unfold wh; rw [q]; exact h2)
  unfold LR
  rw [e]
  exact Prod.ext (RM_ratio (up_pos hD E) hB hr) rfl
/-- what _normalize makes of a mantissa and an exponent, ahead of the trailing zeros -/
def NZ (md : Md) (sg : Int) (m : Nat) (e : Int) (p : Nat) : Nat × Int :=
  if bl m ≤ p then (m, e) else (RM md sg m (2 ^ (bl m - p)), e + (bl m - p : Nat))
abbrev can (x : Nat × Int) : Nat × Int := (cm x.1, x.2 + v2 x.1)
theorem can_pow {m : Nat} (h : 0 < m) (k : Nat) (e : Int) : can (m * 2 ^ k, e) = can (m, e + k) := by
  unfold can
  rw [cm_pow h, v2_pow h]
  simp only [Prod.mk.injEq, true_and]
  omega
theorem win_shift {m p : Nat} (hm : 0 < m) (h : p ≤ bl m) (hp : 0 < p) : 2 ^ (p - 1) ≤ m / 2 ^ (bl m - p) ∧ m / 2 ^ (bl m - p) < 2 ^ p := by
  obtain ⟨h1, h2⟩ := bl_ge hm
  have h3 := bl_lt m
  constructor
  · refine (Nat.le_div_iff_mul_le (Nat.two_pow_pos _)).mpr ?_
    rw [← Nat.pow_add, show p - 1 + (bl m - p) = bl m - 1 by omega]
    exact h1
  · refine (Nat.div_lt_iff_lt_mul (Nat.two_pow_pos _)).mpr ?_
    rw [← Nat.pow_add, show p + (bl m - p) = bl m by omega]
    exact h3
theorem NZ_LR {md : Md} {sg : Int} {N D m p : Nat} {e : Int} (hN : 0 < N) (hD : 0 < D) (hm : 0 < m) (hp : 0 < p)
    (hr : up N (-e) = m * up D e) : can (NZ md sg m e p) = can (LR md sg N D p) := by
  unfold NZ
  split
  · rename_i h
    -- the mantissa fits
    obtain ⟨w1, w2⟩ := bl_ge hm
    have w3 := bl_lt m
    have L : LR md sg N D p = (RM md sg (m * 2 ^ (p - bl m)) 1, e - (p - bl m : Nat)) := by
      refine LR_of hN hD hp (by decide) ?_ ?_ ?_
      · rw [Nat.mul_one]
        unfold up at hr ⊢
        have c : 0 < 2 ^ ((-e).toNat + (e - (p - bl m : Nat)).toNat) := Nat.two_pow_pos _
        refine Nat.eq_of_mul_eq_mul_right c ?_
        have t1 : N * 2 ^ (-(e - (p - bl m : Nat))).toNat * 2 ^ ((-e).toNat + (e - (p - bl m : Nat)).toNat) = N * 2 ^ (-e).toNat * 2 ^ ((-(e - (p - bl m : Nat))).toNat + (e - (p - bl m : Nat)).toNat) := by
          rw [Nat.mul_assoc, Nat.mul_assoc, ← Nat.pow_add, ← Nat.pow_add]
          congr 2
          omega
        rw [t1, hr]
        simp only [Nat.mul_assoc, ← Nat.pow_add]
        rw [Nat.mul_comm (2 ^ (p - bl m)), Nat.mul_assoc, ← Nat.pow_add]
        congr 3
        omega
      · rw [Nat.div_one]
        have : 2 ^ (bl m - 1) * 2 ^ (p - bl m) ≤ m * 2 ^ (p - bl m) := Nat.mul_le_mul_right _ w1
        rw [← Nat.pow_add, show bl m - 1 + (p - bl m) = p - 1 by omega] at this
        exact this
      · rw [Nat.div_one]
        have : m * 2 ^ (p - bl m) < 2 ^ bl m * 2 ^ (p - bl m) := Nat.mul_lt_mul_of_pos_right w3 (Nat.two_pow_pos _)
        rw [← Nat.pow_add, show bl m + (p - bl m) = p by omega] at this
        exact this
    rw [L, RM_one, can_pow hm]
    congr 2
    omega
  · rename_i h
    obtain ⟨w1, w2⟩ := win_shift hm (by omega : p ≤ bl m) hp
    rw [LR_of (A := m) (B := 2 ^ (bl m - p)) (E := e + (bl m - p : Nat)) hN hD hp (Nat.two_pow_pos _) ?_ w1 w2]
    unfold up at hr ⊢
    have c : 0 < 2 ^ ((-e).toNat + e.toNat) := Nat.two_pow_pos _
    refine Nat.eq_of_mul_eq_mul_right c ?_
    have t1 : N * 2 ^ (-(e + (bl m - p : Nat))).toNat * 2 ^ (bl m - p) * 2 ^ ((-e).toNat + e.toNat) = N * 2 ^ (-e).toNat * 2 ^ ((-(e + (bl m - p : Nat))).toNat + (bl m - p) + e.toNat) := by
      simp only [Nat.mul_assoc, ← Nat.pow_add]
      congr 2
      omega
    rw [t1, hr]
    simp only [Nat.mul_assoc, ← Nat.pow_add]
    congr 3
    omega
/-! a sticky last bit -/
theorem sticky {md : Md} {sg : Int} {A B n : Nat} (hB : 0 < B) (hr : A % B ≠ 0) : RM md sg (2 * (A / B) + 1) (2 ^ (n + 2)) = RM md sg A (B * 2 ^ (n + 1)) := by
  have hP : 0 < 2 ^ n := Nat.two_pow_pos n
  have q1 : (2 * (A / B) + 1) / 2 ^ (n + 2) = A / B / 2 ^ (n + 1) := by
    rw [Nat.pow_succ 2 (n + 1), Nat.mul_comm (2 ^ (n + 1)), ← Nat.div_div_eq_div_mul]
    congr 1
    omega
  have q2 : A / (B * 2 ^ (n + 1)) = A / B / 2 ^ (n + 1) := (Nat.div_div_eq_div_mul A B _).symm
  have r1 : (2 * (A / B) + 1) % 2 ^ (n + 2) = 2 * (A / B % 2 ^ (n + 1)) + 1 := by
    have e := Nat.div_add_mod (2 * (A / B) + 1) (2 ^ (n + 2))
    have e' := Nat.div_add_mod (A / B) (2 ^ (n + 1))
    rw [q1, Nat.pow_succ 2 (n + 1)] at e
    rw [Nat.pow_succ 2 (n + 1)]
    generalize A / B / 2 ^ (n + 1) = x at e e'
    generalize (2 : Nat) ^ (n + 1) = y at e e' ⊢
    have c : y * 2 * x = 2 * (y * x) := by rw [Nat.mul_comm y 2, Nat.mul_assoc]
    omega
  have r2 : A % (B * 2 ^ (n + 1)) = B * (A / B % 2 ^ (n + 1)) + A % B := by
    rw [Nat.mod_mul]; omega
  have ab : A % B < B := Nat.mod_lt _ hB
  generalize hu : A / B % 2 ^ (n + 1) = u at r1 r2
  generalize hs : A % B = r at r2 hr ab
  have z2 : A % (B * 2 ^ (n + 1)) ≠ 0 := by rw [r2]; omega
  have z1 : (2 * (A / B) + 1) % 2 ^ (n + 2) ≠ 0 := by rw [r1]; omega
  have m1 : ¬ 2 * ((2 * (A / B) + 1) % 2 ^ (n + 2)) = 2 ^ (n + 2) := by
    rw [r1, Nat.pow_succ, Nat.pow_succ]
    omega
  have m2 : ¬ 2 * (A % (B * 2 ^ (n + 1))) = B * 2 ^ (n + 1) := by
    rw [r2, Nat.pow_succ, ← Nat.mul_assoc]
    intro e
    have e' : B * u + r = B * 2 ^ n := by omega
    have d : B ∣ r := (Nat.dvd_add_right (Nat.dvd_mul_right B u)).mp (e' ▸ Nat.dvd_mul_right B (2 ^ n))
    exact hr (Nat.eq_zero_of_dvd_of_lt d ab)
  have l : 2 ^ (n + 2) < 2 * ((2 * (A / B) + 1) % 2 ^ (n + 2)) ↔ B * 2 ^ (n + 1) < 2 * (A % (B * 2 ^ (n + 1))) := by
    rw [r1, r2]
    have a : 2 ^ (n + 2) < 2 * (2 * u + 1) ↔ 2 ^ n ≤ u := by rw [Nat.pow_succ, Nat.pow_succ]; omega
    have b : B * 2 ^ (n + 1) < 2 * (B * u + r) ↔ 2 ^ n ≤ u := by
      rw [Nat.pow_succ, ← Nat.mul_assoc]
      constructor
      · intro x
        have x' : B * 2 ^ n < B * (u + 1) := by rw [Nat.mul_add, Nat.mul_one]; omega
        exact Nat.le_of_lt_succ (Nat.lt_of_mul_lt_mul_left x')
      · intro x
        have x' : B * 2 ^ n ≤ B * u := Nat.mul_le_mul_left _ x
        omega
    rw [a, b]
  cases md <;> simp only [RM, q1, q2, z1, z2, m1, m2, l, if_false, ne_eq, not_false_eq_true, and_true, false_and, or_false]
/-- a quotient with a sticky bit, rounded, is the exact quotient rounded -/
theorem NZ_div {md : Md} {sg : Int} {N D A B p : Nat} {e : Int} (hN : 0 < N) (hD : 0 < D) (hB : 0 < B) (hp : 0 < p) (hr : A % B ≠ 0) (hb : p + 1 ≤ bl (A / B))
    (hx : up N (-(e + 1)) * B = A * up D (e + 1)) : can (NZ md sg (2 * (A / B) + 1) e p) = can (LR md sg N D p) := by
  have hq : 0 < A / B := by
    rcases Nat.eq_zero_or_pos (A / B) with h | h
    · rw [h] at hb; simp [bl, Builtin.Int.intBits] at hb
    · exact h
  have hbl : bl (2 * (A / B) + 1) = bl (A / B) + 1 := by
    obtain ⟨h1, h2⟩ := bl_ge hq
    have h3 := bl_lt (A / B)
    obtain ⟨k, hk⟩ : ∃ k, bl (A / B) = k + 1 := ⟨bl (A / B) - 1, by omega⟩
    rw [hk] at h1 h3 ⊢
    simp only [Nat.add_sub_cancel] at h1
    refine bl_eq ?_ ?_ <;> (rw [Nat.pow_succ] at *) <;> (try rw [Nat.pow_succ]) <;> omega
  obtain ⟨n, hn⟩ : ∃ n, bl (2 * (A / B) + 1) - p = n + 2 := ⟨bl (2 * (A / B) + 1) - p - 2, by omega⟩
  obtain ⟨w1, w2⟩ := win_shift (m := 2 * (A / B) + 1) (by omega) (by omega : p ≤ _) hp
  unfold NZ
  rw [if_neg (by omega)]
  rw [hn] at w1 w2 ⊢
  have q1 : (2 * (A / B) + 1) / 2 ^ (n + 2) = A / (B * 2 ^ (n + 1)) := by
    rw [Nat.pow_succ 2 (n + 1), Nat.mul_comm (2 ^ (n + 1)), ← Nat.div_div_eq_div_mul, ← Nat.div_div_eq_div_mul]
    congr 1
    omega
  rw [q1] at w1 w2
  rw [LR_of (A := A) (B := B * 2 ^ (n + 1)) (E := e + (n + 2 : Nat)) hN hD hp (Nat.mul_pos hB (Nat.two_pow_pos _)) ?_ w1 w2, sticky hB hr]
  unfold up at hx ⊢
  have c : 0 < 2 ^ ((-(e + 1)).toNat + (e + 1).toNat) := Nat.two_pow_pos _
  refine Nat.eq_of_mul_eq_mul_right c ?_
  have t1 : N * 2 ^ (-(e + (n + 2 : Nat))).toNat * (B * 2 ^ (n + 1)) * 2 ^ ((-(e + 1)).toNat + (e + 1).toNat) = N * 2 ^ (-(e + 1)).toNat * B * 2 ^ ((-(e + (n + 2 : Nat))).toNat + (n + 1) + (e + 1).toNat) := by
    rw [Nat.mul_right_comm N (2 ^ (-(e + 1)).toNat) B, ← Nat.mul_assoc (N * 2 ^ (-(e + (n + 2 : Nat))).toNat) B, Nat.mul_right_comm N (2 ^ (-(e + (n + 2 : Nat))).toNat) B]
    simp only [Nat.mul_assoc, ← Nat.pow_add]
    congr 3
    omega
  rw [t1, hx]
  simp only [Nat.mul_assoc, ← Nat.pow_add]
  congr 3
  omega
end Mine
end
section
open PySem PySem.W PySem.Spec PySem.Calls PyProof.Rows
set_option maxHeartbeats 800000
namespace Mine
theorem cast_pow (k : Nat) : (2 : Int) ^ k = ((2 ^ k : Nat) : Int) := by simp
theorem fdiv_cast (m k : Nat) : (m : Int).fdiv (2 ^ k) = ((m / 2 ^ k : Nat) : Int) := by
  rw [cast_pow]; exact (Int.fdiv_eq_ediv_of_nonneg _ (Int.natCast_nonneg _)).trans (Int.natCast_ediv _ _).symm
theorem and_one (x : Nat) : Builtin.bitAnd (x : Int) 1 = ((x % 2 : Nat) : Int) := by rw [bitAnd_m1]; omega
theorem and_two (x : Nat) : Builtin.bitAnd (x : Int) 2 = ((x / 2 % 2 * 2 : Nat) : Int) := by
  rw [bitAnd_pp (by omega) (by omega)]
  congr 1
  show x &&& 2 = _
  have a := @Nat.and_div_two x 2
  have b : (x &&& 2) % 2 = 0 := by
    have := @Nat.and_mod_two_pow x 2 1
    rw [Nat.pow_one] at this
    rw [this, Nat.mod_self, Nat.and_zero]
  have c : x / 2 &&& 2 / 2 = x / 2 % 2 := Nat.and_two_pow_sub_one_eq_mod (x / 2) 1
  omega
theorem and_mask (x k : Nat) : Builtin.bitAnd (x : Int) (1 * 2 ^ k - 1) = ((x % 2 ^ k : Nat) : Int) := by
  have hp : 0 < 2 ^ k := Nat.two_pow_pos k
  have e : (1 * 2 ^ k - 1 : Int) = ((2 ^ k - 1 : Nat) : Int) := by rw [cast_pow]; omega
  rw [e, bitAnd_pp (by omega) (by omega)]
  congr 1
  show x &&& (2 ^ k - 1) = _
  exact Nat.and_two_pow_sub_one_eq_mod x k
theorem ceil_cast (m k : Nat) : -((-(m : Int)).fdiv (2 ^ k)) = ((if m % 2 ^ k = 0 then m / 2 ^ k else m / 2 ^ k + 1 : Nat) : Int) := by
  have hp : 0 < 2 ^ k := Nat.two_pow_pos k
  rw [cast_pow, Int.fdiv_eq_ediv_of_nonneg _ (Int.natCast_nonneg _)]
  have d := Nat.div_add_mod m (2 ^ k)
  have l := Nat.mod_lt m hp
  generalize (2 : Nat) ^ k = y at *
  have key : ∀ q : Int, (-(m : Int)) = -q * (y : Int) + ((q * y - m)) := by intro q; rw [Int.neg_mul]; omega
  split
  · rename_i h
    rw [h, Nat.add_zero] at d
    have e : -(m : Int) = -((m / y : Nat) : Int) * (y : Int) := by
      rw [Int.neg_mul, ← Int.natCast_mul, Nat.mul_comm, d]
    rw [e, Int.mul_ediv_cancel _ (by omega)]
    omega
  · rename_i h
    have e : -(m : Int) = ((y : Int) - ((m % y : Nat) : Int)) + (-((m / y + 1 : Nat) : Int)) * (y : Int) := by
      have : ((m / y + 1 : Nat) : Int) * (y : Int) = (y : Int) * ((m / y : Nat) : Int) + y := by
        rw [Int.natCast_add, Int.add_mul, Int.mul_comm]; simp
      rw [Int.neg_mul, this, ← Int.natCast_mul]
      omega
    rw [e, Int.add_mul_ediv_right _ _ (by omega), Int.ediv_eq_zero_of_lt (by omega) (by omega)]
    omega
theorem rm_near (sg : Int) (m k : Nat) : RM .n sg m (2 ^ (k + 1)) = if m / 2 ^ k % 2 = 1 ∧ (m / 2 ^ k / 2 % 2 = 1 ∨ m % 2 ^ k ≠ 0) then m / 2 ^ k / 2 + 1 else m / 2 ^ k / 2 := by
  have hp : 0 < 2 ^ k := Nat.two_pow_pos k
  have w : m / 2 ^ (k + 1) = m / 2 ^ k / 2 := by rw [Nat.pow_succ, Nat.div_div_eq_div_mul]
  have r : m % 2 ^ (k + 1) = m % 2 ^ k + 2 ^ k * (m / 2 ^ k % 2) := by rw [Nat.pow_succ, Nat.mod_mul]
  have l := Nat.mod_lt m hp
  simp only [RM]
  rw [w, r, Nat.pow_succ]
  rcases Nat.mod_two_eq_zero_or_one (m / 2 ^ k) with e | e
  · rw [e, Nat.mul_zero, Nat.add_zero, if_neg (by omega), if_neg (by omega)]
  · rw [e, Nat.mul_one]
    by_cases c : m / 2 ^ k / 2 % 2 = 1 ∨ m % 2 ^ k ≠ 0
    · rw [if_pos (by omega), if_pos ⟨rfl, c⟩]
    · rw [if_neg (by omega), if_neg (fun x => c x.2)]
def sd : Md → Int → Bool
  | .f, s => s == 0
  | .c, s => s == 1
  | .d, _ => true
  | .u, _ => false
  | .n, _ => false
theorem rm_dir {md : Md} {sg : Int} (hs : sg = 0 ∨ sg = 1) (hn : md ≠ .n) (m B : Nat) : RM md sg m B = if sd md sg = true then m / B else if m % B = 0 then m / B else m / B + 1 := by
  rcases hs with rfl | rfl <;> cases md <;> simp_all [RM, sd]
theorem NZ_pos {md : Md} {sg : Int} {m p : Nat} {e : Int} (hm : 0 < m) (hp : 0 < p) : 0 < (NZ md sg m e p).1 := by
  unfold NZ
  split
  · exact hm
  · obtain ⟨w1, _⟩ := win_shift hm (by omega : p ≤ bl m) hp
    exact RM_pos (Nat.lt_of_lt_of_le (Nat.two_pow_pos _) w1)
theorem cm_two_pow (k : Nat) : cm (2 ^ k) = 1 := by
  have := cm_pow (m := 1) (by decide) k
  rw [Nat.one_mul] at this
  rw [this]
  simp [cm, v2_odd]
theorem NZ_bits {md : Md} {sg : Int} {m p : Nat} {e : Int} (hm : 0 < m) (hp : 0 < p) : bl (NZ md sg m e p).1 = (if bl m ≤ p then bl m else p) ∨ cm (NZ md sg m e p).1 = 1 := by
  unfold NZ
  split
  · exact .inl rfl
  · obtain ⟨w1, w2⟩ := win_shift hm (by omega : p ≤ bl m) hp
    have g := RM_ge md sg m (2 ^ (bl m - p))
    have l := RM_le md sg m (2 ^ (bl m - p))
    dsimp only
    obtain ⟨k, rfl⟩ : ∃ k, p = k + 1 := ⟨p - 1, by omega⟩
    by_cases c : RM md sg m (2 ^ (bl m - (k + 1))) < 2 ^ (k + 1)
    · exact .inl (bl_eq (by simp only [Nat.add_sub_cancel] at w1; omega) c)
    · right
      rw [show RM md sg m (2 ^ (bl m - (k + 1))) = 2 ^ (k + 1) by omega]
      exact cm_two_pow _
theorem nat_and_pred (n : Nat) (h : 0 < n) : n - (n &&& (n - 1)) = 2 ^ v2 n := by
  induction n using Nat.strongRecOn with
  | ind n ih =>
    by_cases ho : n % 2 = 1
    · rw [v2_odd ho, Nat.pow_zero]
      have e : n &&& (n - 1) = n - 1 := by
        have a := @Nat.and_div_two n (n - 1)
        have b : (n &&& (n - 1)) % 2 = (n - 1) % 2 := by
          have := @Nat.and_mod_two_pow n (n - 1) 1
          rw [Nat.pow_one] at this
          rw [this, ho, show (n - 1) % 2 = 0 by omega]
          rfl
        have c : (n - 1) / 2 = n / 2 := by omega
        rw [c, Nat.and_self] at a
        omega
      rw [e]; omega
    · have hm : n = (n / 2) * 2 := by omega
      have i := ih (n / 2) (by omega) (by omega)
      have e2 : v2 n = v2 (n / 2) + 1 := by
        have := v2_two (m := n / 2) (by omega)
        rw [← hm] at this
        exact this
      have a := @Nat.and_div_two n (n - 1)
      rw [show (n - 1) / 2 = n / 2 - 1 by omega] at a
      have b : (n &&& (n - 1)) % 2 = 0 := by
        have := @Nat.and_mod_two_pow n (n - 1) 1
        rw [Nat.pow_one] at this
        rw [this, show n % 2 = 0 by omega, Nat.zero_and]
      rw [e2, Nat.pow_succ, ← i]
      have l : n / 2 &&& (n / 2 - 1) ≤ n / 2 := Nat.and_le_left
      omega
theorem trail_eq {n : Nat} (h : 0 < n) : (Builtin.Int.intBits (Builtin.bitAnd (n : Int) (-(n : Int))) : Int) - 1 = (v2 n : Int) := by
  rw [bitAnd_pn (by omega) (by omega)]
  have e : (Builtin.bitNot (-(n : Int))).toNat = n - 1 := by unfold Builtin.bitNot; omega
  rw [e]
  have l : n &&& (n - 1) ≤ n := Nat.and_le_left
  have q : (n : Int) - ((((n : Int).toNat &&& (n - 1) : Nat)) : Int) = ((n - (n &&& (n - 1)) : Nat) : Int) := by
    rw [show (n : Int).toNat = n by omega]; omega
  rw [q, nat_and_pred n h]
  have := @bl_eq (2 ^ v2 n) (v2 n) (Nat.le_refl _) (Nat.pow_lt_pow_right (by decide) (by omega))
  show ((bl (2 ^ v2 n) : Nat) : Int) - 1 = _
  rw [this]; omega
end Mine
end
section
open PySem PySem.W PySem.Spec PySem.Calls PyProof.Rows
set_option maxHeartbeats 800000
namespace Mine
abbrev RetI (h₀ : Heap) (L : Addr) (m : Str → Option Value) (news : List (Addr × Obj)) (s : Shared) (Q : Value → Shared → Prop) (x : Int) : Prop :=
  ∀ (t : Tok) (h' : Heap) (tk' : Nat), Fr h₀ L h' m → News h₀ L h' news → Q (.int x t) { s with heap := h', toks := tk' }
abbrev RetT (h₀ : Heap) (L : Addr) (m : Str → Option Value) (news : List (Addr × Obj)) (s : Shared) (Q : Value → Shared → Prop) (a b c d : Int) : Prop :=
  ∀ (D : Addr) (t1 t2 t3 t4 : Tok) (k : Nat) (h' : Heap) (tk' : Nat), Fr h₀ L h' m → News h₀ L h' ((D, tup4 a b c d t1 t2 t3 t4 k) :: news) → (∀ p ∈ news, p.1 < D) → Q (.ref D) { s with heap := h', toks := tk' }
abbrev RetF (h₀ : Heap) (L : Addr) (m : Str → Option Value) (news : List (Addr × Obj)) (s : Shared) (Q : Value → Shared → Prop) (a : Addr) : Prop :=
  ∀ (h' : Heap) (tk' : Nat), Fr h₀ L h' m → News h₀ L h' news → Q (.ref a) { s with heap := h', toks := tk' }
abbrev Call (w : World) (f : Addr) (n : Nat) (vs : List Value) (news : List (Addr × Obj)) (R : Heap → Addr → (Str → Option Value) → Shared → (Value → Shared → Prop) → Prop) : Prop :=
  ∀ (mean : ExcName → Option Value) (mg mb : Str → Option Value) (dp un : Nat) (gd : Option (List Code)) (cn : Str) (cs : Scope) (a : Addr) (ccd : Value) (cl : List (Str × Addr)) (outer : List Env) (A₀ : Around) (base h₀ : Heap) (L : Addr) (m : Str → Option Value) (s : Shared) (Q E : Value → Shared → Prop),
    Below A₀ base outer h₀ → Fr h₀ L s.heap m → (hd.heap_39 w.params).In h₀ → News h₀ L s.heap news → Top hd.view_39 LS mean mg mb h₀ → cs.kind = .function →
    dp + n < recursionLimit → un + 8 * n < cLine → R h₀ L m s Q →
    wpAny (model PySem.Challenge.pw_ah5003_01 w) (ktrTop dp un gd cn cs L a ccd cl outer) (call (.ref f) vs) Q E s
def CI (w : World) (f : Addr) (n : Nat) (vs : List Value) (news : List (Addr × Obj)) (x : Int) : Prop :=
  Call w f n vs news fun h₀ L m s Q => RetI h₀ L m news s Q x
def CT (w : World) (f : Addr) (n : Nat) (vs : List Value) (news : List (Addr × Obj)) (a b c d : Int) : Prop :=
  Call w f n vs news fun h₀ L m s Q => RetT h₀ L m news s Q a b c d
section
variable {w : World} {f : Addr} {n : Nat} {vs : List Value} {news : List (Addr × Obj)} {x a' b' c' d' : Int}
  {mean : ExcName → Option Value} {mg mb : Str → Option Value} {dp un : Nat} {gd : Option (List Code)} {cn : Str} {cs : Scope} {a : Addr} {ccd : Value} {cl : List (Str × Addr)} {outer : List Env} {A₀ : Around} {base h₀ : Heap} {L : Addr} {m : Str → Option Value} {s : Shared} {Q E : Value → Shared → Prop}
theorem CI.use (c : CI w f n vs news x) (B : Below A₀ base outer h₀) (F : Fr h₀ L s.heap m) (X : (hd.heap_39 w.params).In h₀) (N : News h₀ L s.heap news) (T : Top hd.view_39 LS mean mg mb h₀) (hk : cs.kind = .function)
    (hd : dp + n < recursionLimit) (hu : un + 8 * n < cLine) (hr : RetI h₀ L m news s Q x) :
    wpAny (model PySem.Challenge.pw_ah5003_01 w) (ktrTop dp un gd cn cs L a ccd cl outer) (call (.ref f) vs) Q E s := c _ _ _ _ _ _ _ _ _ _ _ _ _ _ _ _ _ _ _ _ B F X N T hk hd hu hr
theorem CT.use (c : CT w f n vs news a' b' c' d') (B : Below A₀ base outer h₀) (F : Fr h₀ L s.heap m) (X : (hd.heap_39 w.params).In h₀) (N : News h₀ L s.heap news) (T : Top hd.view_39 LS mean mg mb h₀) (hk : cs.kind = .function)
    (hd : dp + n < recursionLimit) (hu : un + 8 * n < cLine) (hr : RetT h₀ L m news s Q a' b' c' d') :
    wpAny (model PySem.Challenge.pw_ah5003_01 w) (ktrTop dp un gd cn cs L a ccd cl outer) (call (.ref f) vs) Q E s := c _ _ _ _ _ _ _ _ _ _ _ _ _ _ _ _ _ _ _ _ B F X N T hk hd hu hr
theorem endI {y : Int} {t : Tok} {h' : Heap} {tk' : Nat} {news' : List (Addr × Obj)} (hr : RetI h₀ L m news s Q x) (e : y = x) (F : Fr h₀ L h' m) (N : News h₀ L h' news') (hs : ∀ p ∈ news, p ∈ news') :
    Q (.int y t) { s with heap := h', toks := tk' } := by
  subst e
  exact hr t h' tk' F fun p hp => N p (hs p hp)
theorem endT {D : Addr} {a b c d : Int} {t1 t2 t3 t4 : Tok} {k : Nat} {h' : Heap} {tk' : Nat} {news' : List (Addr × Obj)} (hr : RetT h₀ L m news s Q a' b' c' d') (e : a = a' ∧ b = b' ∧ c = c' ∧ d = d') (F : Fr h₀ L h' m) (N : News h₀ L h' news')
    (hm : (D, tup4 a b c d t1 t2 t3 t4 k) ∈ news') (hs : ∀ p ∈ news, p ∈ news') (hl : ∀ p ∈ news, p.1 < D) :
    Q (.ref D) { s with heap := h', toks := tk' } := by
  obtain ⟨rfl, rfl, rfl, rfl⟩ := e
  exact hr D t1 t2 t3 t4 k h' tk' F (fun p hp => (List.mem_cons.mp hp).elim (fun q => q ▸ N _ hm) fun q => N p (hs p q)) hl
theorem RetT.eq {a b c d : Int} (hr : RetT h₀ L m news s Q a' b' c' d') (e : a = a' ∧ b = b' ∧ c = c' ∧ d = d') : RetT h₀ L m news s Q a b c d := by
  obtain ⟨rfl, rfl, rfl, rfl⟩ := e
  exact hr
end
end Mine
namespace Mine
def CF (w : World) (f : Addr) (n : Nat) (vs : List Value) (news : List (Addr × Obj)) (x : Addr) : Prop :=
  Call w f n vs news fun h₀ L m s Q => RetF h₀ L m news s Q x
section
variable {w : World} {f : Addr} {n : Nat} {vs : List Value} {news : List (Addr × Obj)} {x : Addr}
  {mean : ExcName → Option Value} {mg mb : Str → Option Value} {dp un : Nat} {gd : Option (List Code)} {cn : Str} {cs : Scope} {a : Addr} {ccd : Value} {cl : List (Str × Addr)} {outer : List Env} {A₀ : Around} {base h₀ : Heap} {L : Addr} {m : Str → Option Value} {s : Shared} {Q E : Value → Shared → Prop}
theorem CF.use (c : CF w f n vs news x) (B : Below A₀ base outer h₀) (F : Fr h₀ L s.heap m) (X : (hd.heap_39 w.params).In h₀) (N : News h₀ L s.heap news) (T : Top hd.view_39 LS mean mg mb h₀) (hk : cs.kind = .function)
    (hd : dp + n < recursionLimit) (hu : un + 8 * n < cLine) (hr : RetF h₀ L m news s Q x) :
    wpAny (model PySem.Challenge.pw_ah5003_01 w) (ktrTop dp un gd cn cs L a ccd cl outer) (call (.ref f) vs) Q E s := c _ _ _ _ _ _ _ _ _ _ _ _ _ _ _ _ _ _ _ _ B F X N T hk hd hu hr
theorem endF {h' : Heap} {tk' : Nat} {news' : List (Addr × Obj)} (hr : RetF h₀ L m news s Q x) (F : Fr h₀ L h' m) (N : News h₀ L h' news') (hs : ∀ p ∈ news, p ∈ news') :
    Q (.ref x) { s with heap := h', toks := tk' } := hr h' tk' F fun p hp => N p (hs p hp)
end
end Mine
end
section
open PySem PySem.W PySem.Spec PySem.Calls PyProof.Rows
set_option maxHeartbeats 1000000
namespace Mine
theorem fillF1 : PySem.Challenge.rw_ah5003_01 = PySem.Challenge.rw_ah5003_01 ∧ hd.heap_39 = hd.heap_39 := by
  k_fill
  exact ⟨rfl, rfl⟩
local macro_rules | `(tactic| walk_at "execs cons") => `(tactic| k_extra "execs cons")
local macro_rules | `(tactic| walk_at "call ref") => `(tactic| k_extra "call ref")
local macro_rules | `(tactic| walk_at "isTrue Subscript") => `(tactic| k_extra "isTrue Subscript")
local macro_rules | `(tactic| walk_at "eval Call") => `(tactic| (k_here; (with_reducible show wpAny _ _ (eval (Expr.Call (Expr.Name _ _) _ [] _) _) _ _ _); k_dflt (refine Call_ ?_)))
local macro_rules | `(tactic| walk_at "ite") => `(tactic| (k_here; (try dsimp only); first
  | ((with_reducible show (if (_ != (0 : Int)) = true then _ else _)); (refine ite_ne0 (fun hC => ?_) (fun hC => ?_)) <;> first | (exfalso; omega) | skip)
  | ((with_reducible show (if (decide _) = true then _ else _)); (refine ite_dec (fun hC => ?_) (fun hC => ?_)) <;> first | (exfalso; omega) | skip)
  | ((with_reducible show (if ((_ : Int) == _) = true then _ else _)); (refine ite_beq (fun hC => ?_) (fun hC => ?_)) <;> first | (exfalso; omega) | skip)))
local macro_rules | `(tactic| walk_at "binaryOp RShift int int") => `(tactic| (k_here; (with_reducible refine rshift_int ?hn ?_); (case hn => omega)))
local macro_rules | `(tactic| walk_at "inplaceOp RShift int int") => `(tactic| (k_here; (with_reducible refine irshift_int ?hn ?_); (case hn => omega)))
local macro_rules | `(tactic| ktr_call $x $c) => `(tactic| ((refine' CI.use $x ?k1 ?k2 ?k3 ?k4 ?k5 ?kK ?kd ?ku ?kR); (case k1 => k_asm); (case k2 => k_asm); (case k3 => k_asm); (case k4 => k_asm); (case k5 => k_asm); (case kK => first | exact rfl | assumption); (case kd => ktr_room); (case ku => ktr_units); (case' kR => (intro t9 h9 tk9 F9 N9; (try dsimp only); (try k_fold)))))
local macro_rules | `(tactic| ktn_call $x $c) => `(tactic| ((refine' CT.use $x ?k1 ?k2 ?k3 ?k4 ?k5 ?kK ?kd ?ku ?kR); (case k1 => k_asm); (case k2 => k_asm); (case k3 => k_asm); (case k4 => k_asm); (case k5 => k_asm); (case kK => first | exact rfl | assumption); (case kd => ktr_room); (case ku => ktr_units); (case' kR => (intro D9 u1 u2 u3 u4 k9 h9 tk9 F9 N9 l9; (try k_lt l9); (try dsimp only); (try k_fold)))))
local macro_rules | `(tactic| ktr_call $x $c) => `(tactic| ((refine' CF.use $x ?k1 ?k2 ?k3 ?k4 ?k5 ?kK ?kd ?ku ?kR); (case k1 => k_asm); (case k2 => k_asm); (case k3 => k_asm); (case k4 => k_asm); (case k5 => k_asm); (case kK => first | exact rfl | assumption); (case kd => ktr_room); (case ku => ktr_units); (case' kR => (intro h9 tk9 F9 N9; (try dsimp only); (try k_fold)))))
local macro_rules | `(tactic| cell_enter) => `(tactic| (refine' code_def ?k1 ?k2 ?k3 ?k4 ?k5 ?kA ?kF ?kK ?k6 ?k7 ?k8 ?k9 ?kB ?_ ?c2 ?c3 ?c4 ?c5; (case kA => exact rfl); (case kF => exact rfl); (case kK => first | exact rfl | assumption); (case k1 => k_asm); (case k2 => k_asm); (case k3 => k_asm); (case k4 => k_asm); (case k5 => k_asm); (case k6 => k_is); (case k7 => k_is); (case k8 => ktr_room); (case k9 => first | exact BindsTo.of_eq rfl | exact binds_K (by k_in) rfl (by k_is) rfl rfl rfl); (case c5 => decide); (case kB => exact locs rfl); (case c2 => exact rfl); (case c3 => exact rfl); (case c4 => exact rfl); k_whole; intro g' L' h' FG' F' N' B' X' T'; (try dsimp only); (try k_lift B'); (try k_fold)))
local macro_rules | `(tactic| walk_at "binaryOp LShift int int") => `(tactic| (k_here; first
  | ((with_reducible refine lshift_int_small ?ha ?hb ?hc ?_); (case ha => omega); (case hb => omega); (case hc => decide))
  | ((with_reducible refine lshift_int ?ha ?hb ?_); (case ha => omega); (case hb => omega))))
local macro_rules | `(tactic| walk_at "call builtin:divmod") => `(tactic| (k_here; (with_reducible show wpAny _ _ (call (Value.builtin _) [Value.int _ _, Value.int _ _]) _ _ _); refine divmod_N (by assumption) (by assumption) (by omega) ?_ (Or.inl (PyProof.noPylong_of_log2 (by assumption))); intro _ _ _))
local macro_rules | `(tactic| ked_read) => `(tactic| first | exact read4N (by k_asm) (by k_mem) | exact read4K (by k_in) (by k_is) rfl)
local macro_rules | `(tactic| walk_at "compareOp Eq ref ref") => `(tactic| (k_here; (with_reducible show wpAny _ _ (compareOp CmpOp.Eq (Value.ref _) (Value.ref _)) _ _ _); k_dflt ((refine' eq4 ?hX ?hY ?hu ?_); (case hX => ked_read); (case hY => ked_read); (case hu => ktr_units))))
local macro_rules | `(tactic| ktn_call $x $c) => `(tactic| ((refine' C2.use $x ?k1 ?k2 ?k3 ?k4 ?k5 ?kK ?kd ?ku ?kR); (case k1 => k_asm); (case k2 => k_asm); (case k3 => k_asm); (case k4 => k_asm); (case k5 => k_asm); (case kK => first | exact rfl | assumption); (case kd => ktr_room); (case ku => ktr_units); (case' kR => (intro D9 u1 u2 k9 h9 tk9 F9 N9 l9; (try k_lt l9); (try dsimp only); (try k_fold)))))
local macro_rules | `(tactic| walk_at "binaryOp Pow int int") => `(tactic| (k_here; (with_reducible refine pow2 ?ha ?hb ?_); (case ha => omega); (case hb => omega)))
theorem con_trailing (w : World) {n : Int} {m₀ : Nat} (e : n = m₀) (h0 : 0 < m₀) (t : Tok) (news : List (Addr × Obj)) : CI w 21 1 [.int n t] news (v2 m₀) := by
  intro mean mg mb dp un gd cn cs a ccd cl outer A₀ base h₀ L m s Q E B F X N T hk hd hu hret
  k_with_none
  refine wpAny_call ?_
  k_dflt cell_enter
  k_steps
  all_goals (refine endI hret ?_ (by assumption) (by assumption) (fun _ h => h))
  all_goals (subst e; exact trail_eq h0)
structure NS where
  M : Int
  E : Int
  B : Int
  tm : Tok
  te : Tok
  tb : Tok
abbrev NSok (md : Md) (sign : Int) (m₀ : Nat) (exp : Int) (p : Nat) (c : NS) : Prop :=
  c.M = (NZ md sign m₀ exp p).1 ∧ c.E = (NZ md sign m₀ exp p).2 ∧ c.B = (if bl m₀ ≤ p then bl m₀ else p : Nat)
section
variable {md : Md} {sign man exp bc prec : Int} {m₀ p : Nat} {tm te tb : Tok} {c : NS}
theorem md_n (h : (md.str == Str.ofString "n") = true) : md = .n := by
  cases md <;> first | rfl | exact absurd h (by decide)
theorem md_not_n (h : (md.str == Str.ofString "n") = false) : md ≠ .n := by
  rintro rfl; revert h; decide
theorem ns_big (em : man = m₀) (hb : bc = bl m₀) (ep : prec = p) (h : 0 < bc - prec) {X : Int} (hX : X = (RM md sign m₀ (2 ^ (bl m₀ - p)) : Nat)) : NSok md sign m₀ exp p ⟨X, exp + (bc - prec), prec, tm, te, tb⟩ := by
  subst em hb ep
  have hn : ¬ bl m₀ ≤ p := by omega
  unfold NSok NZ
  rw [if_neg hn, if_neg hn]
  exact ⟨hX, by dsimp only; omega, rfl⟩
theorem ns_near (em : man = m₀) (hb : bc = bl m₀) (ep : prec = p) (h : 0 < bc - prec) (a : (md.str == Str.ofString "n") = true) {X : Int}
    (hX : ∀ k, bl m₀ - p = k + 1 → (bc - prec - 1).toNat = k → X = (if m₀ / 2 ^ k % 2 = 1 ∧ (m₀ / 2 ^ k / 2 % 2 = 1 ∨ m₀ % 2 ^ k ≠ 0) then m₀ / 2 ^ k / 2 + 1 else m₀ / 2 ^ k / 2 : Nat)) :
    NSok md sign m₀ exp p ⟨X, exp + (bc - prec), prec, tm, te, tb⟩ := by
  refine ns_big em hb ep h ?_
  obtain rfl := md_n a
  obtain ⟨k, hk⟩ : ∃ k, bl m₀ - p = k + 1 := ⟨bl m₀ - p - 1, by omega⟩
  rw [hk, rm_near]
  exact hX k hk (by omega)
theorem ns_a (em : man = m₀) (hb : bc = bl m₀) (ep : prec = p) (h : 0 < bc - prec) (a : (md.str == Str.ofString "n") = true) (h1 : Builtin.bitAnd (man.fdiv (2 ^ (bc - prec - 1).toNat)) 1 ≠ 0)
    (h2 : Builtin.bitAnd (man.fdiv (2 ^ (bc - prec - 1).toNat)) 2 ≠ 0 ∨ Builtin.bitAnd man (1 * 2 ^ (bc - prec - 1).toNat - 1) ≠ 0) :
    NSok md sign m₀ exp p ⟨(man.fdiv (2 ^ (bc - prec - 1).toNat)).fdiv (2 ^ Int.toNat 1) + 1, exp + (bc - prec), prec, tm, te, tb⟩ := by
  refine ns_near em hb ep h a fun k _ hk => ?_
  rw [hk] at h1 h2 ⊢
  rw [em, fdiv_cast, and_one] at h1
  rw [em, fdiv_cast, and_two, and_mask] at h2
  rw [em, fdiv_cast, show Int.toNat 1 = 1 from rfl, fdiv_cast, Nat.pow_one, if_pos ⟨by omega, by omega⟩]
  rfl
theorem ns_b (em : man = m₀) (hb : bc = bl m₀) (ep : prec = p) (h : 0 < bc - prec) (a : (md.str == Str.ofString "n") = true)
    (h2 : Builtin.bitAnd (man.fdiv (2 ^ (bc - prec - 1).toNat)) 1 = 0 ∨ (Builtin.bitAnd (man.fdiv (2 ^ (bc - prec - 1).toNat)) 2 = 0 ∧ Builtin.bitAnd man (1 * 2 ^ (bc - prec - 1).toNat - 1) = 0)) :
    NSok md sign m₀ exp p ⟨(man.fdiv (2 ^ (bc - prec - 1).toNat)).fdiv (2 ^ Int.toNat 1), exp + (bc - prec), prec, tm, te, tb⟩ := by
  refine ns_near em hb ep h a fun k _ hk => ?_
  rw [hk] at h2 ⊢
  rw [em, fdiv_cast, and_two, and_mask, and_one] at h2
  rw [em, fdiv_cast, show Int.toNat 1 = 1 from rfl, fdiv_cast, Nat.pow_one, if_neg (by omega)]
theorem ns_c (hs : sign = 0 ∨ sign = 1) (em : man = m₀) (hb : bc = bl m₀) (ep : prec = p) (h : 0 < bc - prec) (a : (md.str == Str.ofString "n") = false) (h2 : sd md sign = true) :
    NSok md sign m₀ exp p ⟨man.fdiv (2 ^ (bc - prec).toNat), exp + (bc - prec), prec, tm, te, tb⟩ := by
  refine ns_big em hb ep h ?_
  rw [rm_dir hs (md_not_n a), if_pos h2, em, fdiv_cast, show (bc - prec).toNat = bl m₀ - p by omega]
theorem ns_d (hs : sign = 0 ∨ sign = 1) (em : man = m₀) (hb : bc = bl m₀) (ep : prec = p) (h : 0 < bc - prec) (a : (md.str == Str.ofString "n") = false) (h2 : sd md sign = false) :
    NSok md sign m₀ exp p ⟨-(-man).fdiv (2 ^ (bc - prec).toNat), exp + (bc - prec), prec, tm, te, tb⟩ := by
  refine ns_big em hb ep h ?_
  rw [rm_dir hs (md_not_n a), if_neg (by rw [h2]; exact Bool.false_ne_true), em, show (bc - prec).toNat = bl m₀ - p by omega, ceil_cast]
theorem ns_e (em : man = m₀) (hb : bc = bl m₀) (ep : prec = p) (h : ¬ 0 < bc - prec) : NSok md sign m₀ exp p ⟨man, exp, bc, tm, te, tb⟩ := by
  subst em hb ep
  have hn : bl m₀ ≤ p := by omega
  unfold NSok NZ
  rw [if_pos hn, if_pos hn]
  exact ⟨rfl, rfl, rfl⟩
theorem te_one (hm : 0 < m₀) (hp : 0 < p) (P : NSok md sign m₀ exp p c) (h : Builtin.bitAnd c.M 1 ≠ 0) : v2 (NZ md sign m₀ exp p).1 = 0 := by
  rw [P.1, and_one] at h
  exact v2_odd (by omega)
theorem te_a (hm : 0 < m₀) (hp : 0 < p) (P : NSok md sign m₀ exp p c) (h : Builtin.bitAnd c.M 1 ≠ 0) (h1 : c.M = 1) :
    sign = sign ∧ c.M = (cm (NZ md sign m₀ exp p).1 : Nat) ∧ c.E = (can (NZ md sign m₀ exp p)).2 ∧ 1 = (bl (cm (NZ md sign m₀ exp p).1) : Int) := by
  have z := te_one hm hp P h
  have e : cm (NZ md sign m₀ exp p).1 = (NZ md sign m₀ exp p).1 := by rw [cm, z, Nat.pow_zero, Nat.div_one]
  have o : (NZ md sign m₀ exp p).1 = 1 := by have := P.1; omega
  refine ⟨rfl, by rw [e]; exact P.1, by simp only [can, z]; have := P.2.1; omega, ?_⟩
  rw [e, o]; decide
theorem te_b (hm : 0 < m₀) (hp : 0 < p) (P : NSok md sign m₀ exp p c) (h : Builtin.bitAnd c.M 1 ≠ 0) (h1 : c.M ≠ 1) :
    sign = sign ∧ c.M = (cm (NZ md sign m₀ exp p).1 : Nat) ∧ c.E = (can (NZ md sign m₀ exp p)).2 ∧ c.B = (bl (cm (NZ md sign m₀ exp p).1) : Int) := by
  have z := te_one hm hp P h
  have e : cm (NZ md sign m₀ exp p).1 = (NZ md sign m₀ exp p).1 := by rw [cm, z, Nat.pow_zero, Nat.div_one]
  refine ⟨rfl, by rw [e]; exact P.1, by simp only [can, z]; have := P.2.1; omega, ?_⟩
  rcases NZ_bits (md := md) (sg := sign) (e := exp) hm hp with b | b
  · rw [e, b]; exact P.2.2
  · exfalso; rw [e] at b; have := P.1; omega
theorem te_m (P : NSok md sign m₀ exp p c) : c.M.fdiv (2 ^ (↑(v2 (NZ md sign m₀ exp p).fst) : Int).toNat) = (cm (NZ md sign m₀ exp p).1 : Nat) := by
  rw [P.1, show ((v2 (NZ md sign m₀ exp p).1 : Nat) : Int).toNat = v2 (NZ md sign m₀ exp p).1 by omega, fdiv_cast]
theorem te_c (P : NSok md sign m₀ exp p c) (h1 : c.M.fdiv (2 ^ (↑(v2 (NZ md sign m₀ exp p).fst) : Int).toNat) = 1) :
    sign = sign ∧ c.M.fdiv (2 ^ (↑(v2 (NZ md sign m₀ exp p).fst) : Int).toNat) = (cm (NZ md sign m₀ exp p).1 : Nat) ∧ c.E + ↑(v2 (NZ md sign m₀ exp p).fst) = (can (NZ md sign m₀ exp p)).2 ∧ 1 = (bl (cm (NZ md sign m₀ exp p).1) : Int) := by
  have e := te_m P
  have o : cm (NZ md sign m₀ exp p).1 = 1 := by omega
  refine ⟨rfl, e, by simp only [can]; have := P.2.1; omega, ?_⟩
  rw [o]; decide
theorem te_d (hm : 0 < m₀) (hp : 0 < p) (P : NSok md sign m₀ exp p c) (h1 : c.M.fdiv (2 ^ (↑(v2 (NZ md sign m₀ exp p).fst) : Int).toNat) ≠ 1) :
    sign = sign ∧ c.M.fdiv (2 ^ (↑(v2 (NZ md sign m₀ exp p).fst) : Int).toNat) = (cm (NZ md sign m₀ exp p).1 : Nat) ∧ c.E + ↑(v2 (NZ md sign m₀ exp p).fst) = (can (NZ md sign m₀ exp p)).2 ∧ c.B - ↑(v2 (NZ md sign m₀ exp p).fst) = (bl (cm (NZ md sign m₀ exp p).1) : Int) := by
  have e := te_m P
  refine ⟨rfl, e, by simp only [can]; have := P.2.1; omega, ?_⟩
  rcases NZ_bits (md := md) (sg := sign) (e := exp) hm hp with b | b
  · have := bl_cm (NZ_pos (md := md) (sg := sign) (e := exp) hm hp)
    have := P.2.2
    omega
  · omega
end
theorem con__normalize (w : World) {sign man exp bc prec : Int} {m₀ p : Nat} (md : Md) (hs : sign = 0 ∨ sign = 1) (em : man = m₀) (hm : 0 < m₀) (hb : bc = bl m₀) (ep : prec = p) (hp : 0 < p) (hbb : bl m₀ ≤ 100000) (t1 t2 t3 t4 t5 t6 : Tok) (news : List (Addr × Obj)) :
    CT w 37 3 [.int sign t1, .int man t2, .int exp t3, .int bc t4, .int prec t5, .str md.str t6] news sign (cm (NZ md sign m₀ exp p).1) (can (NZ md sign m₀ exp p)).2 (bl (cm (NZ md sign m₀ exp p).1)) := by
  intro mean mg mb dp un gd cn cs a ccd cl outer A₀ base h₀ L m s Q E B F X N T hk hd hu hret
  k_with_none
  k_with "execs cons" => (
    (try dsimp only)
    (with_reducible show wpAny _ _ (execs (Stmt.If (Expr.Compare (Expr.Name (PySem.Str.ofString "n") _) _ _ _) _ _ _ :: _) _) _ _ _)
    refine' execs_cut (σ := NS) (fun _ => news) (fun c => [(PySem.Str.ofString "sign", .int sign t1), (PySem.Str.ofString "man", .int c.M c.tm), (PySem.Str.ofString "exp", .int c.E c.te), (PySem.Str.ofString "bc", .int c.B c.tb)]) (NSok md sign m₀ exp p) ?F ?h1 ?h2
    (case F => k_asm)
    (case' h1 => try k_fold)
    (case' h2 => intro c9 m9 h9 tk9 P9 F9 N9; (have hM9 : 0 < c9.M := by (have := NZ_pos (md := md) (sg := sign) (e := exp) hm hp); (have := P9.1); omega); try k_fold))
  k_with "isTrue Subscript" => (
    refine' isTrue_cut (sd md sign) ?g1 ?g2
    (case' g2 => intro tk9; try dsimp only)
    (case' g1 => (cases md <;> first | (exfalso; contradiction) | (rcases hs with hs9 | hs9 <;> subst hs9))))
  k_with "call ref" => (
    (with_reducible show wpAny _ _ (call (Value.ref 21) _) _ _ _)
    ktr_call (con_trailing w (m₀ := (NZ md sign m₀ exp p).1) P9.1 (NZ_pos hm hp) _ _) ())
  refine wpAny_call ?_
  k_dflt cell_enter
  k_steps
  all_goals first
    | (refine endT hret ?_ (by assumption) (by assumption) (List.Mem.head _) (fun _ h => List.Mem.tail _ h) (by assumption))
    | (refine CutEnd.intro ⟨_, _, _, _, _, _⟩ (by assumption) (by assumption) (fun _ h => h) (by simp only [List.forall_mem_cons]; exact ⟨rfl, rfl, rfl, rfl, fun _ h => nomatch h⟩) ?_)
    | exact ⟨rfl, _, rfl⟩
  all_goals first
    | exact te_a hm hp (by assumption) (by assumption) (by assumption)
    | exact te_b hm hp (by assumption) (by assumption) (by assumption)
    | exact te_c (by assumption) (by assumption)
    | exact te_d hm hp (by assumption) (by assumption)
    | exact ns_a em hb ep (by assumption) (by assumption) (by assumption) (Or.inl (by assumption))
    | exact ns_a em hb ep (by assumption) (by assumption) (by assumption) (Or.inr (by assumption))
    | exact ns_b em hb ep (by assumption) (by assumption) (Or.inl (by assumption))
    | exact ns_b em hb ep (by assumption) (by assumption) (Or.inr ⟨by assumption, by assumption⟩)
    | exact ns_c hs em hb ep (by assumption) (by assumption) (by assumption)
    | exact ns_d hs em hb ep (by assumption) (by assumption) (by assumption)
    | exact ns_e em hb ep (by assumption)
end Mine
end
section
open PySem PySem.W PySem.Spec PySem.Calls PyProof.Rows
set_option maxHeartbeats 1000000
namespace Mine
local macro_rules | `(tactic| walk_at "execs cons") => `(tactic| k_extra "execs cons")
local macro_rules | `(tactic| walk_at "call ref") => `(tactic| k_extra "call ref")
local macro_rules | `(tactic| walk_at "isTrue Subscript") => `(tactic| k_extra "isTrue Subscript")
local macro_rules | `(tactic| walk_at "eval Call") => `(tactic| (k_here; (with_reducible show wpAny _ _ (eval (Expr.Call (Expr.Name _ _) _ [] _) _) _ _ _); k_dflt (refine Call_ ?_)))
local macro_rules | `(tactic| walk_at "ite") => `(tactic| (k_here; (try dsimp only); first
  | ((with_reducible show (if (_ != (0 : Int)) = true then _ else _)); (refine ite_ne0 (fun hC => ?_) (fun hC => ?_)) <;> first | (exfalso; omega) | skip)
  | ((with_reducible show (if (decide _) = true then _ else _)); (refine ite_dec (fun hC => ?_) (fun hC => ?_)) <;> first | (exfalso; omega) | skip)
  | ((with_reducible show (if ((_ : Int) == _) = true then _ else _)); (refine ite_beq (fun hC => ?_) (fun hC => ?_)) <;> first | (exfalso; omega) | skip)))
local macro_rules | `(tactic| walk_at "binaryOp RShift int int") => `(tactic| (k_here; (with_reducible refine rshift_int ?hn ?_); (case hn => omega)))
local macro_rules | `(tactic| walk_at "inplaceOp RShift int int") => `(tactic| (k_here; (with_reducible refine irshift_int ?hn ?_); (case hn => omega)))
local macro_rules | `(tactic| ktr_call $x $c) => `(tactic| ((refine' CI.use $x ?k1 ?k2 ?k3 ?k4 ?k5 ?kK ?kd ?ku ?kR); (case k1 => k_asm); (case k2 => k_asm); (case k3 => k_asm); (case k4 => k_asm); (case k5 => k_asm); (case kK => first | exact rfl | assumption); (case kd => ktr_room); (case ku => ktr_units); (case' kR => (intro t9 h9 tk9 F9 N9; (try dsimp only); (try k_fold)))))
local macro_rules | `(tactic| ktn_call $x $c) => `(tactic| ((refine' CT.use $x ?k1 ?k2 ?k3 ?k4 ?k5 ?kK ?kd ?ku ?kR); (case k1 => k_asm); (case k2 => k_asm); (case k3 => k_asm); (case k4 => k_asm); (case k5 => k_asm); (case kK => first | exact rfl | assumption); (case kd => ktr_room); (case ku => ktr_units); (case' kR => (intro D9 u1 u2 u3 u4 k9 h9 tk9 F9 N9 l9; (try k_lt l9); (try dsimp only); (try k_fold)))))
local macro_rules | `(tactic| ktr_call $x $c) => `(tactic| ((refine' CF.use $x ?k1 ?k2 ?k3 ?k4 ?k5 ?kK ?kd ?ku ?kR); (case k1 => k_asm); (case k2 => k_asm); (case k3 => k_asm); (case k4 => k_asm); (case k5 => k_asm); (case kK => first | exact rfl | assumption); (case kd => ktr_room); (case ku => ktr_units); (case' kR => (intro h9 tk9 F9 N9; (try dsimp only); (try k_fold)))))
local macro_rules | `(tactic| cell_enter) => `(tactic| (refine' code_def ?k1 ?k2 ?k3 ?k4 ?k5 ?kA ?kF ?kK ?k6 ?k7 ?k8 ?k9 ?kB ?_ ?c2 ?c3 ?c4 ?c5; (case kA => exact rfl); (case kF => exact rfl); (case kK => first | exact rfl | assumption); (case k1 => k_asm); (case k2 => k_asm); (case k3 => k_asm); (case k4 => k_asm); (case k5 => k_asm); (case k6 => k_is); (case k7 => k_is); (case k8 => ktr_room); (case k9 => first | exact BindsTo.of_eq rfl | exact binds_K (by k_in) rfl (by k_is) rfl rfl rfl); (case c5 => decide); (case kB => exact locs rfl); (case c2 => exact rfl); (case c3 => exact rfl); (case c4 => exact rfl); k_whole; intro g' L' h' FG' F' N' B' X' T'; (try dsimp only); (try k_lift B'); (try k_fold)))
local macro_rules | `(tactic| walk_at "binaryOp LShift int int") => `(tactic| (k_here; first
  | ((with_reducible refine lshift_int_small ?ha ?hb ?hc ?_); (case ha => omega); (case hb => omega); (case hc => decide))
  | ((with_reducible refine lshift_int ?ha ?hb ?_); (case ha => omega); (case hb => omega))))
local macro_rules | `(tactic| walk_at "call builtin:divmod") => `(tactic| (k_here; (with_reducible show wpAny _ _ (call (Value.builtin _) [Value.int _ _, Value.int _ _]) _ _ _); refine divmod_N (by assumption) (by assumption) (by omega) ?_ (Or.inl (PyProof.noPylong_of_log2 (by assumption))); intro _ _ _))
local macro_rules | `(tactic| ked_read) => `(tactic| first | exact read4N (by k_asm) (by k_mem) | exact read4K (by k_in) (by k_is) rfl)
local macro_rules | `(tactic| walk_at "compareOp Eq ref ref") => `(tactic| (k_here; (with_reducible show wpAny _ _ (compareOp CmpOp.Eq (Value.ref _) (Value.ref _)) _ _ _); k_dflt ((refine' eq4 ?hX ?hY ?hu ?_); (case hX => ked_read); (case hY => ked_read); (case hu => ktr_units))))
local macro_rules | `(tactic| ktn_call $x $c) => `(tactic| ((refine' C2.use $x ?k1 ?k2 ?k3 ?k4 ?k5 ?kK ?kd ?ku ?kR); (case k1 => k_asm); (case k2 => k_asm); (case k3 => k_asm); (case k4 => k_asm); (case k5 => k_asm); (case kK => first | exact rfl | assumption); (case kd => ktr_room); (case ku => ktr_units); (case' kR => (intro D9 u1 u2 k9 h9 tk9 F9 N9 l9; (try k_lt l9); (try dsimp only); (try k_fold)))))
local macro_rules | `(tactic| walk_at "binaryOp Pow int int") => `(tactic| (k_here; (with_reducible refine pow2 ?ha ?hb ?_); (case ha => omega); (case hb => omega)))
theorem con_normalize (w : World) {sign man exp bc prec : Int} {m₀ p : Nat} (md : Md) (hs : sign = 0 ∨ sign = 1) (em : man = m₀) (hm : 0 < m₀) (hb : bc = bl m₀) (ep : prec = p) (hp : 0 < p) (hbb : bl m₀ ≤ 100000) (t1 t2 t3 t4 t5 t6 : Tok) (news : List (Addr × Obj)) :
    CT w 44 4 [.int sign t1, .int man t2, .int exp t3, .int bc t4, .int prec t5, .str md.str t6] news sign (cm (NZ md sign m₀ exp p).1) (can (NZ md sign m₀ exp p)).2 (bl (cm (NZ md sign m₀ exp p).1)) := by
  intro mean mg mb dp un gd cn cs a ccd cl outer A₀ base h₀ L m s Q E B F X N T hk hd hu hret
  have hbm : bc = Builtin.Int.intBits man := by rw [em]; exact hb
  k_with_none
  k_with "call ref" => (
    (with_reducible show wpAny _ _ (call (Value.ref 37) _) _ _ _)
    ktn_call (con__normalize w md hs em hm hb ep hp hbb _ _ _ _ _ _ _) ())
  refine wpAny_call ?_
  k_dflt cell_enter
  k_steps
  all_goals (refine endT hret ⟨rfl, rfl, rfl, rfl⟩ (by assumption) (by assumption) (List.Mem.head _) (fun _ h => List.Mem.tail _ h) (by assumption))
section
variable {x : Int} {a : Nat}
theorem fm1 (e : x = a) (h : Builtin.bitAnd x 1 ≠ 0) : x = (cm a : Nat) ∧ (0 : Int) = (v2 a : Nat) ∧ (Builtin.Int.intBits x : Int) = (bl (cm a) : Nat) := by
  rw [e, and_one] at h
  have z : v2 a = 0 := v2_odd (by omega)
  have q : cm a = a := by rw [cm, z, Nat.pow_zero, Nat.div_one]
  rw [q, z, e]
  exact ⟨rfl, rfl, rfl⟩
theorem fm3 (e : x = a) (ha : 0 < a) : x.fdiv (2 ^ (v2 a : Int).toNat) = (cm a : Nat) ∧ (0 + (v2 a : Nat) : Int) = (v2 a : Nat) ∧ (Builtin.Int.intBits x : Int) - (v2 a : Nat) = (bl (cm a) : Nat) := by
  have b : Builtin.Int.intBits (a : Int) = bl (cm a) + v2 a := bl_cm ha
  rw [e, show ((v2 a : Nat) : Int).toNat = v2 a by omega, fdiv_cast]
  exact ⟨rfl, by omega, by omega⟩
theorem fm2 (e : x = a) (ha : 0 < a) (h : Builtin.bitAnd x 1 = 0) (h2 : Builtin.bitAnd x 2 ≠ 0) : x.fdiv (2 ^ Int.toNat 1) = (cm a : Nat) ∧ (0 + 1 : Int) = (v2 a : Nat) ∧ (Builtin.Int.intBits x : Int) - 1 = (bl (cm a) : Nat) := by
  have b := fm3 e ha
  have z : v2 a = 1 := by
    rw [e, and_one] at h
    rw [e, and_two] at h2
    have hm : a = (a / 2) * 2 := by omega
    have e2 : v2 a = v2 (a / 2) + 1 := by
      have := v2_two (m := a / 2) (by omega)
      rw [← hm] at this
      exact this
    rw [e2, v2_odd (by omega)]
  rw [z] at b
  rw [z]
  exact b
end
theorem con_fme (w : World) {n : Int} (h0 : n ≠ 0) (t t2 t3 t4 : Tok) (news : List (Addr × Obj)) :
    CT w 52 3 [.int n t, .int 0 t2, .int 0 t3, .str (PySem.Str.ofString "d") t4] news (if n < 0 then 1 else 0) (cm n.natAbs) (v2 n.natAbs) (bl (cm n.natAbs)) := by
  intro mean mg mb dp un gd cn cs a ccd cl outer A₀ base h₀ L m s Q E B F X N T hk hd hu hret
  k_with_none
  k_with "call ref" => (
    (with_reducible show wpAny _ _ (call (Value.ref 21) _) _ _ _)
    ktr_call (con_trailing w (m₀ := n.natAbs) (by omega) (by omega) _ _) ())
  refine wpAny_call ?_
  k_dflt cell_enter
  k_steps
  all_goals (refine endT hret ?_ (by assumption) (by assumption) (List.Mem.head _) (fun _ h => List.Mem.tail _ h) (by assumption))
  all_goals first
    | (rw [if_pos (by assumption)]; first
      | exact ⟨rfl, fm1 (by omega) (by assumption)⟩
      | exact ⟨rfl, fm2 (by omega) (by omega) (by assumption) (by assumption)⟩
      | exact ⟨rfl, fm3 (by omega) (by omega)⟩)
    | (rw [if_neg (by assumption)]; first
      | exact ⟨rfl, fm1 (by omega) (by assumption)⟩
      | exact ⟨rfl, fm2 (by omega) (by omega) (by assumption) (by assumption)⟩
      | exact ⟨rfl, fm3 (by omega) (by omega)⟩)
theorem con_fme0 (w : World) (t t2 t3 t4 : Tok) (news : List (Addr × Obj)) :
    CF w 52 3 [.int 0 t, .int 0 t2, .int 0 t3, .str (PySem.Str.ofString "d") t4] news 22 := by
  intro mean mg mb dp un gd cn cs a ccd cl outer A₀ base h₀ L m s Q E B F X N T hk hd hu hret
  k_with_none
  refine wpAny_call ?_
  k_dflt cell_enter
  k_steps
  all_goals (refine endF hret (by assumption) (by assumption) (fun _ h => h))
theorem con_from_int (w : World) {n : Int} (h0 : n ≠ 0) (t : Tok) (news : List (Addr × Obj)) :
    CT w 60 4 [.int n t] news (if n < 0 then 1 else 0) (cm n.natAbs) (v2 n.natAbs) (bl (cm n.natAbs)) := by
  intro mean mg mb dp un gd cn cs a ccd cl outer A₀ base h₀ L m s Q E B F X N T hk hd hu hret
  k_with_none
  k_with "call ref" => (
    (with_reducible show wpAny _ _ (call (Value.ref 52) _) _ _ _)
    ktn_call (con_fme w h0 _ _ _ _ _) ())
  refine wpAny_call ?_
  k_dflt cell_enter
  k_steps
  all_goals (refine endT hret ⟨rfl, rfl, rfl, rfl⟩ (by assumption) (by assumption) (List.Mem.head _) (fun _ h => List.Mem.tail _ h) (by assumption))
theorem con_from_int0 (w : World) (t : Tok) (news : List (Addr × Obj)) :
    CF w 60 4 [.int 0 t] news 22 := by
  intro mean mg mb dp un gd cn cs a ccd cl outer A₀ base h₀ L m s Q E B F X N T hk hd hu hret
  k_with_none
  k_with "call ref" => (
    (with_reducible show wpAny _ _ (call (Value.ref 52) _) _ _ _)
    ktr_call (con_fme0 w _ _ _ _ _) ())
  refine wpAny_call ?_
  k_dflt cell_enter
  k_steps
  all_goals (refine endF hret (by assumption) (by assumption) (fun _ h => h))
end Mine
end
section
open PySem PySem.W PySem.Spec PySem.Calls PyProof.Rows
set_option maxHeartbeats 1000000
namespace Mine
local macro_rules | `(tactic| walk_at "execs cons") => `(tactic| k_extra "execs cons")
local macro_rules | `(tactic| walk_at "call ref") => `(tactic| k_extra "call ref")
local macro_rules | `(tactic| walk_at "isTrue Subscript") => `(tactic| k_extra "isTrue Subscript")
local macro_rules | `(tactic| walk_at "eval Call") => `(tactic| (k_here; (with_reducible show wpAny _ _ (eval (Expr.Call (Expr.Name _ _) _ [] _) _) _ _ _); k_dflt (refine Call_ ?_)))
local macro_rules | `(tactic| walk_at "ite") => `(tactic| (k_here; (try dsimp only); first
  | ((with_reducible show (if (_ != (0 : Int)) = true then _ else _)); (refine ite_ne0 (fun hC => ?_) (fun hC => ?_)) <;> first | (exfalso; omega) | skip)
  | ((with_reducible show (if (decide _) = true then _ else _)); (refine ite_dec (fun hC => ?_) (fun hC => ?_)) <;> first | (exfalso; omega) | skip)
  | ((with_reducible show (if ((_ : Int) == _) = true then _ else _)); (refine ite_beq (fun hC => ?_) (fun hC => ?_)) <;> first | (exfalso; omega) | skip)))
local macro_rules | `(tactic| walk_at "binaryOp RShift int int") => `(tactic| (k_here; (with_reducible refine rshift_int ?hn ?_); (case hn => omega)))
local macro_rules | `(tactic| walk_at "inplaceOp RShift int int") => `(tactic| (k_here; (with_reducible refine irshift_int ?hn ?_); (case hn => omega)))
local macro_rules | `(tactic| ktr_call $x $c) => `(tactic| ((refine' CI.use $x ?k1 ?k2 ?k3 ?k4 ?k5 ?kK ?kd ?ku ?kR); (case k1 => k_asm); (case k2 => k_asm); (case k3 => k_asm); (case k4 => k_asm); (case k5 => k_asm); (case kK => first | exact rfl | assumption); (case kd => ktr_room); (case ku => ktr_units); (case' kR => (intro t9 h9 tk9 F9 N9; (try dsimp only); (try k_fold)))))
local macro_rules | `(tactic| ktn_call $x $c) => `(tactic| ((refine' CT.use $x ?k1 ?k2 ?k3 ?k4 ?k5 ?kK ?kd ?ku ?kR); (case k1 => k_asm); (case k2 => k_asm); (case k3 => k_asm); (case k4 => k_asm); (case k5 => k_asm); (case kK => first | exact rfl | assumption); (case kd => ktr_room); (case ku => ktr_units); (case' kR => (intro D9 u1 u2 u3 u4 k9 h9 tk9 F9 N9 l9; (try k_lt l9); (try dsimp only); (try k_fold)))))
local macro_rules | `(tactic| ktr_call $x $c) => `(tactic| ((refine' CF.use $x ?k1 ?k2 ?k3 ?k4 ?k5 ?kK ?kd ?ku ?kR); (case k1 => k_asm); (case k2 => k_asm); (case k3 => k_asm); (case k4 => k_asm); (case k5 => k_asm); (case kK => first | exact rfl | assumption); (case kd => ktr_room); (case ku => ktr_units); (case' kR => (intro h9 tk9 F9 N9; (try dsimp only); (try k_fold)))))
local macro_rules | `(tactic| cell_enter) => `(tactic| (refine' code_def ?k1 ?k2 ?k3 ?k4 ?k5 ?kA ?kF ?kK ?k6 ?k7 ?k8 ?k9 ?kB ?_ ?c2 ?c3 ?c4 ?c5; (case kA => exact rfl); (case kF => exact rfl); (case kK => first | exact rfl | assumption); (case k1 => k_asm); (case k2 => k_asm); (case k3 => k_asm); (case k4 => k_asm); (case k5 => k_asm); (case k6 => k_is); (case k7 => k_is); (case k8 => ktr_room); (case k9 => first | exact BindsTo.of_eq rfl | exact binds_K (by k_in) rfl (by k_is) rfl rfl rfl); (case c5 => decide); (case kB => exact locs rfl); (case c2 => exact rfl); (case c3 => exact rfl); (case c4 => exact rfl); k_whole; intro g' L' h' FG' F' N' B' X' T'; (try dsimp only); (try k_lift B'); (try k_fold)))
local macro_rules | `(tactic| walk_at "binaryOp LShift int int") => `(tactic| (k_here; first
  | ((with_reducible refine lshift_int_small ?ha ?hb ?hc ?_); (case ha => omega); (case hb => omega); (case hc => decide))
  | ((with_reducible refine lshift_int ?ha ?hb ?_); (case ha => omega); (case hb => omega))))
local macro_rules | `(tactic| walk_at "call builtin:divmod") => `(tactic| (k_here; (with_reducible show wpAny _ _ (call (Value.builtin _) [Value.int _ _, Value.int _ _]) _ _ _); refine divmod_N (by assumption) (by assumption) (by omega) ?_ (Or.inl (PyProof.noPylong_of_log2 (by assumption))); intro _ _ _))
local macro_rules | `(tactic| ked_read) => `(tactic| first | exact read4N (by k_asm) (by k_mem) | exact read4K (by k_in) (by k_is) rfl)
local macro_rules | `(tactic| walk_at "compareOp Eq ref ref") => `(tactic| (k_here; (with_reducible show wpAny _ _ (compareOp CmpOp.Eq (Value.ref _) (Value.ref _)) _ _ _); k_dflt ((refine' eq4 ?hX ?hY ?hu ?_); (case hX => ked_read); (case hY => ked_read); (case hu => ktr_units))))
local macro_rules | `(tactic| ktn_call $x $c) => `(tactic| ((refine' C2.use $x ?k1 ?k2 ?k3 ?k4 ?k5 ?kK ?kd ?ku ?kR); (case k1 => k_asm); (case k2 => k_asm); (case k3 => k_asm); (case k4 => k_asm); (case k5 => k_asm); (case kK => first | exact rfl | assumption); (case kd => ktr_room); (case ku => ktr_units); (case' kR => (intro D9 u1 u2 k9 h9 tk9 F9 N9 l9; (try k_lt l9); (try dsimp only); (try k_fold)))))
local macro_rules | `(tactic| walk_at "binaryOp Pow int int") => `(tactic| (k_here; (with_reducible refine pow2 ?ha ?hb ?_); (case ha => omega); (case hb => omega)))
theorem mulOk {a b : Int} (h : Builtin.Int.intBits a + Builtin.Int.intBits b ≤ 100000000) : IntMulOk a b := by
  have h' : (Builtin.Int.intBits a : Int) + Builtin.Int.intBits b ≤ 2 ^ 27 := by omega
  have e : Builtin.Int.intTooBig ((Builtin.Int.intBits a : Int) + Builtin.Int.intBits b) = false := decide_eq_false (Int.not_lt.mpr h')
  unfold IntMulOk
  rw [e]; simp
theorem mulOkN {a b : Nat} (h : bl a + bl b ≤ 100000000) : IntMulOk (a : Int) (b : Int) := mulOk h
theorem bits_abs (n : Int) : Builtin.Int.intBits n = bl n.natAbs ∧ Builtin.Int.intBits (-n) = bl n.natAbs := by
  have e : ∀ x y : Int, x.natAbs = y.natAbs → Builtin.Int.intBits x = Builtin.Int.intBits y := fun x y h =>
    Nat.le_antisymm (PySem.intBits_le_of_natAbs (Nat.le_of_eq h) (Nat.le_refl _)) (PySem.intBits_le_of_natAbs (Nat.le_of_eq h.symm) (Nat.le_refl _))
  exact ⟨e _ _ (by omega), e _ _ (by omega)⟩
theorem bl_prod {a b : Nat} (ha : 0 < a) (hb : 0 < b) : bl (a * b) = bl a + bl b - 1 + a * b / 2 ^ (bl a + bl b - 1) := by
  obtain ⟨a1, a2⟩ := bl_ge ha
  obtain ⟨b1, b2⟩ := bl_ge hb
  have a3 := bl_lt a
  have b3 := bl_lt b
  have lo : 2 ^ (bl a + bl b - 1 - 1) ≤ a * b := by
    have := Nat.mul_le_mul a1 b1
    rw [← Nat.pow_add] at this
    rw [show bl a + bl b - 1 - 1 = bl a - 1 + (bl b - 1) by omega]; exact this
  have hi : a * b < 2 ^ (bl a + bl b - 1 + 1) := by
    rw [show bl a + bl b - 1 + 1 = bl a + bl b by omega, Nat.pow_add]
    exact Nat.mul_lt_mul_of_le_of_lt (Nat.le_of_lt a3) b3 (Nat.two_pow_pos _)
  generalize hk : bl a + bl b - 1 = k at lo hi ⊢
  have hp : 0 < 2 ^ k := Nat.two_pow_pos k
  by_cases c : a * b < 2 ^ k
  · rw [Nat.div_eq_of_lt c]
    have := @bl_eq (a * b) (k - 1) lo (by rw [show k - 1 + 1 = k by omega]; exact c)
    omega
  · have d : a * b / 2 ^ k = 1 := by
      refine Nat.div_eq_of_lt_le (by omega) ?_
      rw [Nat.pow_succ] at hi; omega
    rw [d]
    exact bl_eq (by omega) hi
theorem xor_bit {a b : Int} (ha : a = 0 ∨ a = 1) (hb : b = 0 ∨ b = 1) : Builtin.bitXor a b = 0 ∨ Builtin.bitXor a b = 1 := by
  rcases ha with rfl | rfl <;> rcases hb with rfl | rfl <;> decide
theorem bl_mul_le {a b : Nat} : bl (a * b) ≤ bl a + bl b := by
  refine bl_le.mpr ?_
  rw [Nat.pow_add]
  exact Nat.mul_lt_mul_of_le_of_lt (Nat.le_of_lt (bl_lt a)) (bl_lt b) (Nat.two_pow_pos _)
theorem con_mul (w : World) {S T : Addr} {ss ts se te : Int} {sm tm p : Nat} {prec sb tb : Int} {k1 k2 : Nat} {s1 s2 s3 s4 u1 u2 u3 u4 t1 t2 : Tok} (md : Md) (hss : ss = 0 ∨ ss = 1) (hts : ts = 0 ∨ ts = 1) (hsm : 0 < sm) (htm : 0 < tm) (hb : bl sm ≤ 40000) (hb' : bl tm ≤ 40000) (ep : prec = p) (hp : 0 < p) (news : List (Addr × Obj))
    (hS : (S, tup4 ss sm se sb s1 s2 s3 s4 k1) ∈ news) (hT : (T, tup4 ts tm te tb u1 u2 u3 u4 k2) ∈ news) :
    CT w 83 5 [.ref S, .ref T, .int prec t1, .str md.str t2] news (Builtin.bitXor ss ts) (cm (NZ md (Builtin.bitXor ss ts) (sm * tm) (se + te) p).1) (can (NZ md (Builtin.bitXor ss ts) (sm * tm) (se + te) p)).2 (bl (cm (NZ md (Builtin.bitXor ss ts) (sm * tm) (se + te) p).1)) := by
  intro mean mg mb dp un gd cn cs a ccd cl outer A₀ base h₀ L m s Q E B F X N T hk hd hu hret
  have hmul : IntMulOk (sm : Int) (tm : Int) := mulOkN (by omega)
  have em : (sm : Int) * (tm : Int) = ((sm * tm : Nat) : Int) := (Int.natCast_mul ..).symm
  have hm : 0 < sm * tm := Nat.mul_pos hsm htm
  have hne : (sm : Int) * (tm : Int) ≠ 0 := by omega
  have hbb : bl (sm * tm) ≤ 100000 := by have := @bl_mul_le sm tm; omega
  k_with_none
  k_with "call ref" => (
    (with_reducible show wpAny _ _ (call (Value.ref 44) _) _ _ _)
    ktn_call (con_normalize w md (xor_bit hss hts) em hm (by rw [em]) ep hp hbb _ _ _ _ _ _ _) ())
  refine wpAny_call ?_
  k_dflt cell_enter
  k_steps
  all_goals (refine endT hret ⟨rfl, rfl, rfl, rfl⟩ (by assumption) (by assumption) (List.Mem.head _) (fun _ h => List.Mem.tail _ h) (by assumption))
theorem con_mulx (w : World) {S T : Addr} {ss ts se te : Int} {sm tm : Nat} {sb tb : Int} {k1 k2 : Nat} {s1 s2 s3 s4 u1 u2 u3 u4 : Tok} (hsm : 0 < sm) (htm : 0 < tm) (hb : bl sm ≤ 40000) (hb' : bl tm ≤ 40000) (news : List (Addr × Obj))
    (hS : (S, tup4 ss sm se sb s1 s2 s3 s4 k1) ∈ news) (hT : (T, tup4 ts tm te tb u1 u2 u3 u4 k2) ∈ news) :
    CT w 83 5 [.ref S, .ref T] news (Builtin.bitXor ss ts) (sm * tm : Nat) (se + te) (bl (sm * tm)) := by
  intro mean mg mb dp un gd cn cs a ccd cl outer A₀ base h₀ L m s Q E B F X N T hk hd hu hret
  have hmul : IntMulOk (sm : Int) (tm : Int) := mulOkN (by omega)
  have em : (sm : Int) * (tm : Int) = ((sm * tm : Nat) : Int) := (Int.natCast_mul ..).symm
  have hm : 0 < sm * tm := Nat.mul_pos hsm htm
  have hne : (sm : Int) * (tm : Int) ≠ 0 := by omega
  k_with_none
  refine wpAny_call ?_
  k_dflt cell_enter
  k_steps
  all_goals (refine endT hret ⟨rfl, em, rfl, congrArg (fun x => ((Builtin.Int.intBits x : Nat) : Int)) em⟩ (by assumption) (by assumption) (List.Mem.head _) (fun _ h => List.Mem.tail _ h) (by assumption))
theorem con_mul0 (w : World) {S T : Addr} {ss ts se te sm tm : Int} {prec sb tb : Int} {k1 k2 : Nat} {s1 s2 s3 s4 u1 u2 u3 u4 t1 t2 : Tok} (md : Md) (hs : sm = 0 → se = 0) (ht : tm = 0 → te = 0) (hz : sm = 0 ∨ tm = 0) (news : List (Addr × Obj))
    (hS : (S, tup4 ss sm se sb s1 s2 s3 s4 k1) ∈ news) (hT : (T, tup4 ts tm te tb u1 u2 u3 u4 k2) ∈ news) :
    CF w 83 5 [.ref S, .ref T, .int prec t1, .str md.str t2] news 22 := by
  intro mean mg mb dp un gd cn cs a ccd cl outer A₀ base h₀ L m s Q E B F X N T hk hd hu hret
  have hm : sm * tm = 0 := by rcases hz with rfl | rfl <;> simp
  have hmul : IntMulOk sm tm := by rcases hz with rfl | rfl <;> first | exact IntMulOk.of_left (by decide) | exact IntMulOk.of_right (by decide)
  k_with_none
  refine wpAny_call ?_
  k_dflt cell_enter
  k_steps
  all_goals (refine endF hret (by assumption) (by assumption) (fun _ h => h))
theorem con_mul0x (w : World) {S T : Addr} {ss ts se te sm tm : Int} {sb tb : Int} {k1 k2 : Nat} {s1 s2 s3 s4 u1 u2 u3 u4 : Tok} (hs : sm = 0 → se = 0) (ht : tm = 0 → te = 0) (hz : sm = 0 ∨ tm = 0) (news : List (Addr × Obj))
    (hS : (S, tup4 ss sm se sb s1 s2 s3 s4 k1) ∈ news) (hT : (T, tup4 ts tm te tb u1 u2 u3 u4 k2) ∈ news) :
    CF w 83 5 [.ref S, .ref T] news 22 := by
  intro mean mg mb dp un gd cn cs a ccd cl outer A₀ base h₀ L m s Q E B F X N T hk hd hu hret
  have hm : sm * tm = 0 := by rcases hz with rfl | rfl <;> simp
  have hmul : IntMulOk sm tm := by rcases hz with rfl | rfl <;> first | exact IntMulOk.of_left (by decide) | exact IntMulOk.of_right (by decide)
  k_with_none
  refine wpAny_call ?_
  k_dflt cell_enter
  k_steps
  all_goals (refine endF hret (by assumption) (by assumption) (fun _ h => h))
theorem con_mul0f (w : World) {S : Addr} {ss se : Int} {prec sb : Int} {k1 : Nat} {s1 s2 s3 s4 t1 t2 : Tok} (md : Md) (hs : se = 0) (news : List (Addr × Obj))
    (hS : (S, tup4 ss 0 se sb s1 s2 s3 s4 k1) ∈ news) :
    CF w 83 5 [.ref S, .ref 22, .int prec t1, .str md.str t2] news 22 := by
  intro mean mg mb dp un gd cn cs a ccd cl outer A₀ base h₀ L m s Q E B F X N T hk hd hu hret
  subst hs
  k_with_none
  refine wpAny_call ?_
  k_dflt cell_enter
  k_steps
  all_goals (refine endF hret (by assumption) (by assumption) (fun _ h => h))
theorem con_mul_int (w : World) {S : Addr} {ss se n : Int} {sm p : Nat} {prec sb : Int} {k1 : Nat} {s1 s2 s3 s4 u1 t1 t2 : Tok} (md : Md) (hss : ss = 0 ∨ ss = 1) (hsm : 0 < sm) (hb : bl sm ≤ 40000) (hb' : bl n.natAbs ≤ 40000) (h0 : n ≠ 0) (es : sb = bl sm) (ep : prec = p) (hp : 0 < p) (news : List (Addr × Obj))
    (hS : (S, tup4 ss sm se sb s1 s2 s3 s4 k1) ∈ news) :
    CT w 91 5 [.ref S, .int n u1, .int prec t1, .str md.str t2] news (Builtin.bitXor ss (if n < 0 then 1 else 0)) (cm (NZ md (Builtin.bitXor ss (if n < 0 then 1 else 0)) (sm * n.natAbs) se p).1) (can (NZ md (Builtin.bitXor ss (if n < 0 then 1 else 0)) (sm * n.natAbs) se p)).2 (bl (cm (NZ md (Builtin.bitXor ss (if n < 0 then 1 else 0)) (sm * n.natAbs) se p).1)) := by
  have hx : ∃ sg : Int, (sg = 0 ∨ sg = 1) ∧ Builtin.bitXor ss (if n < 0 then 1 else 0) = sg ∧ (n < 0 → Builtin.bitXor ss 1 = sg) ∧ (¬ n < 0 → ss = sg) := by
    by_cases hn : n < 0
    · exact ⟨_, xor_bit hss (.inr rfl), by rw [if_pos hn], fun _ => rfl, fun h => absurd hn h⟩
    · exact ⟨ss, hss, by rw [if_neg hn, bitXor_zero], fun h => absurd h hn, fun _ => rfl⟩
  obtain ⟨sg, hsg, ex, ex1, ex2⟩ := hx
  rw [ex]
  intro mean mg mb dp un gd cn cs a ccd cl outer A₀ base h₀ L m s Q E B F X N T hk hd hu hret
  obtain ⟨hbn, hbn'⟩ := bits_abs n
  have h0' : 0 < n.natAbs := by omega
  have hp1 : 0 < bl sm := (bl_ge hsm).2
  have hp2 : 0 < bl n.natAbs := (bl_ge h0').2
  have hmul : IntMulOk (sm : Int) n := mulOk (by rw [hbn]; have h1 : Builtin.Int.intBits (sm : Int) ≤ 40000 := hb; omega)
  have hmul2 : IntMulOk (sm : Int) (-n) := mulOk (by rw [hbn']; have h1 : Builtin.Int.intBits (sm : Int) ≤ 40000 := hb; omega)
  have hm : 0 < sm * n.natAbs := Nat.mul_pos hsm h0'
  have hbb : bl (sm * n.natAbs) ≤ 100000 := by have := @bl_mul_le sm n.natAbs; omega
  have em : ∀ x : Int, x = (n.natAbs : Int) → (sm : Int) * x = ((sm * n.natAbs : Nat) : Int) := fun x e => by rw [e]; exact (Int.natCast_mul ..).symm
  have eb : ∀ (x : Int) (k : Nat), x = (n.natAbs : Int) → k = bl n.natAbs → sb + ((k : Int) - 1) + ((sm : Int) * x).fdiv (2 ^ (sb + ((k : Int) - 1)).toNat) = (bl (sm * n.natAbs) : Nat) := fun x k e1 e2 => by
    rw [em x e1, e2, es, show ((bl sm : Int) + ((bl n.natAbs : Int) - 1)).toNat = bl sm + bl n.natAbs - 1 by omega, fdiv_cast, bl_prod hsm h0']
    omega
  k_with_none
  k_with "call ref" => (
    (with_reducible show wpAny _ _ (call (Value.ref 44) _) _ _ _)
    first
    | ktn_call (con_normalize w md hss (em n (by omega)) hm (eb n _ (by omega) hbn) ep hp hbb _ _ _ _ _ _ _) ()
    | ktn_call (con_normalize w md (xor_bit hss (.inr rfl)) (em (-n) (by omega)) hm (eb (-n) _ (by omega) hbn') ep hp hbb _ _ _ _ _ _ _) ())
  refine wpAny_call ?_
  k_dflt cell_enter
  k_steps
  all_goals first
    | (obtain rfl := ex1 (by assumption); refine endT hret ⟨rfl, rfl, rfl, rfl⟩ (by assumption) (by assumption) (List.Mem.head _) (fun _ h => List.Mem.tail _ h) (by assumption))
    | (obtain rfl := ex2 (by assumption); refine endT hret ⟨rfl, rfl, rfl, rfl⟩ (by assumption) (by assumption) (List.Mem.head _) (fun _ h => List.Mem.tail _ h) (by assumption))
theorem con_mul_int0 (w : World) {S : Addr} {ss se n : Int} {sm : Int} {prec sb : Int} {k1 : Nat} {s1 s2 s3 s4 u1 t1 t2 : Tok} (md : Md) (hs : sm = 0 → se = 0) (hz : sm = 0 ∨ n = 0) (news : List (Addr × Obj))
    (hS : (S, tup4 ss sm se sb s1 s2 s3 s4 k1) ∈ news) :
    CF w 91 7 [.ref S, .int n u1, .int prec t1, .str md.str t2] news 22 := by
  intro mean mg mb dp un gd cn cs a ccd cl outer A₀ base h₀ L m s Q E B F X N T hk hd hu hret
  have hnp : n ≠ 0 → 0 < cm n.natAbs := fun h => cm_pos (by omega)
  by_cases hn : n = 0
  · subst hn
    by_cases hm : sm = 0
    · obtain rfl := hm
      k_with_none
      k_with "call ref" => (
        first
        | (with_reducible show wpAny _ _ (call (Value.ref 60) _) _ _ _); ktr_call (con_from_int0 w _ _) ()
        | (with_reducible show wpAny _ _ (call (Value.ref 83) _) _ _ _); ktr_call (con_mul0f w md (hs rfl) _ hS) ())
      refine wpAny_call ?_
      k_dflt cell_enter
      k_steps
      all_goals (refine endF hret (by assumption) (by assumption) (by first | exact fun _ h => h | exact fun _ h => List.Mem.tail _ h))
    · k_with_none
      refine wpAny_call ?_
      k_dflt cell_enter
      k_steps
      all_goals (refine endF hret (by assumption) (by assumption) (by first | exact fun _ h => h | exact fun _ h => List.Mem.tail _ h))
  · obtain rfl := hz.resolve_right hn
    have hcm : ((cm n.natAbs : Nat) : Int) = 0 → ((v2 n.natAbs : Nat) : Int) = 0 := fun h => absurd h (by have := hnp hn; omega)
    k_with_none
    k_with "call ref" => (
      first
      | (with_reducible show wpAny _ _ (call (Value.ref 60) _) _ _ _); ktn_call (con_from_int w hn _ _) ()
      | (with_reducible show wpAny _ _ (call (Value.ref 83) _) _ _ _); ktr_call (con_mul0 w md hs hcm (.inl rfl) _ (List.Mem.tail _ hS) (List.Mem.head _)) ())
    refine wpAny_call ?_
    k_dflt cell_enter
    k_steps
    all_goals (refine endF hret (by assumption) (by assumption) (by first | exact fun _ h => h | exact fun _ h => List.Mem.tail _ h))
end Mine
end
section
open PySem PySem.W PySem.Spec PySem.Calls PyProof.Rows
set_option maxHeartbeats 1000000
namespace Mine
local macro_rules | `(tactic| walk_at "execs cons") => `(tactic| k_extra "execs cons")
local macro_rules | `(tactic| walk_at "call ref") => `(tactic| k_extra "call ref")
local macro_rules | `(tactic| walk_at "isTrue Subscript") => `(tactic| k_extra "isTrue Subscript")
local macro_rules | `(tactic| walk_at "eval Call") => `(tactic| (k_here; (with_reducible show wpAny _ _ (eval (Expr.Call (Expr.Name _ _) _ [] _) _) _ _ _); k_dflt (refine Call_ ?_)))
local macro_rules | `(tactic| walk_at "ite") => `(tactic| (k_here; (try dsimp only); first
  | ((with_reducible show (if (_ != (0 : Int)) = true then _ else _)); (refine ite_ne0 (fun hC => ?_) (fun hC => ?_)) <;> first | (exfalso; omega) | skip)
  | ((with_reducible show (if (decide _) = true then _ else _)); (refine ite_dec (fun hC => ?_) (fun hC => ?_)) <;> first | (exfalso; omega) | skip)
  | ((with_reducible show (if ((_ : Int) == _) = true then _ else _)); (refine ite_beq (fun hC => ?_) (fun hC => ?_)) <;> first | (exfalso; omega) | skip)))
local macro_rules | `(tactic| walk_at "binaryOp RShift int int") => `(tactic| (k_here; (with_reducible refine rshift_int ?hn ?_); (case hn => omega)))
local macro_rules | `(tactic| walk_at "inplaceOp RShift int int") => `(tactic| (k_here; (with_reducible refine irshift_int ?hn ?_); (case hn => omega)))
local macro_rules | `(tactic| ktr_call $x $c) => `(tactic| ((refine' CI.use $x ?k1 ?k2 ?k3 ?k4 ?k5 ?kK ?kd ?ku ?kR); (case k1 => k_asm); (case k2 => k_asm); (case k3 => k_asm); (case k4 => k_asm); (case k5 => k_asm); (case kK => first | exact rfl | assumption); (case kd => ktr_room); (case ku => ktr_units); (case' kR => (intro t9 h9 tk9 F9 N9; (try dsimp only); (try k_fold)))))
local macro_rules | `(tactic| ktn_call $x $c) => `(tactic| ((refine' CT.use $x ?k1 ?k2 ?k3 ?k4 ?k5 ?kK ?kd ?ku ?kR); (case k1 => k_asm); (case k2 => k_asm); (case k3 => k_asm); (case k4 => k_asm); (case k5 => k_asm); (case kK => first | exact rfl | assumption); (case kd => ktr_room); (case ku => ktr_units); (case' kR => (intro D9 u1 u2 u3 u4 k9 h9 tk9 F9 N9 l9; (try k_lt l9); (try dsimp only); (try k_fold)))))
local macro_rules | `(tactic| ktr_call $x $c) => `(tactic| ((refine' CF.use $x ?k1 ?k2 ?k3 ?k4 ?k5 ?kK ?kd ?ku ?kR); (case k1 => k_asm); (case k2 => k_asm); (case k3 => k_asm); (case k4 => k_asm); (case k5 => k_asm); (case kK => first | exact rfl | assumption); (case kd => ktr_room); (case ku => ktr_units); (case' kR => (intro h9 tk9 F9 N9; (try dsimp only); (try k_fold)))))
local macro_rules | `(tactic| cell_enter) => `(tactic| (refine' code_def ?k1 ?k2 ?k3 ?k4 ?k5 ?kA ?kF ?kK ?k6 ?k7 ?k8 ?k9 ?kB ?_ ?c2 ?c3 ?c4 ?c5; (case kA => exact rfl); (case kF => exact rfl); (case kK => first | exact rfl | assumption); (case k1 => k_asm); (case k2 => k_asm); (case k3 => k_asm); (case k4 => k_asm); (case k5 => k_asm); (case k6 => k_is); (case k7 => k_is); (case k8 => ktr_room); (case k9 => first | exact BindsTo.of_eq rfl | exact binds_K (by k_in) rfl (by k_is) rfl rfl rfl); (case c5 => decide); (case kB => exact locs rfl); (case c2 => exact rfl); (case c3 => exact rfl); (case c4 => exact rfl); k_whole; intro g' L' h' FG' F' N' B' X' T'; (try dsimp only); (try k_lift B'); (try k_fold)))
local macro_rules | `(tactic| walk_at "binaryOp LShift int int") => `(tactic| (k_here; first
  | ((with_reducible refine lshift_int_small ?ha ?hb ?hc ?_); (case ha => omega); (case hb => omega); (case hc => decide))
  | ((with_reducible refine lshift_int ?ha ?hb ?_); (case ha => omega); (case hb => omega))))
local macro_rules | `(tactic| walk_at "call builtin:divmod") => `(tactic| (k_here; (with_reducible show wpAny _ _ (call (Value.builtin _) [Value.int _ _, Value.int _ _]) _ _ _); refine divmod_N (by assumption) (by assumption) (by omega) ?_ (Or.inl (PyProof.noPylong_of_log2 (by assumption))); intro _ _ _))
local macro_rules | `(tactic| ked_read) => `(tactic| first | exact read4N (by k_asm) (by k_mem) | exact read4K (by k_in) (by k_is) rfl)
local macro_rules | `(tactic| walk_at "compareOp Eq ref ref") => `(tactic| (k_here; (with_reducible show wpAny _ _ (compareOp CmpOp.Eq (Value.ref _) (Value.ref _)) _ _ _); k_dflt ((refine' eq4 ?hX ?hY ?hu ?_); (case hX => ked_read); (case hY => ked_read); (case hu => ktr_units))))
local macro_rules | `(tactic| ktn_call $x $c) => `(tactic| ((refine' C2.use $x ?k1 ?k2 ?k3 ?k4 ?k5 ?kK ?kd ?ku ?kR); (case k1 => k_asm); (case k2 => k_asm); (case k3 => k_asm); (case k4 => k_asm); (case k5 => k_asm); (case kK => first | exact rfl | assumption); (case kd => ktr_room); (case ku => ktr_units); (case' kR => (intro D9 u1 u2 k9 h9 tk9 F9 N9 l9; (try k_lt l9); (try dsimp only); (try k_fold)))))
local macro_rules | `(tactic| walk_at "binaryOp Pow int int") => `(tactic| (k_here; (with_reducible refine pow2 ?ha ?hb ?_); (case ha => omega); (case hb => omega)))
theorem shift_ratio {N D A₀ B : Nat} {E : Int} (k : Nat) (h : up N (-E) * B = A₀ * up D E) : up N (-(E - k)) * B = A₀ * 2 ^ k * up D (E - k) := by
  unfold up at h ⊢
  have c : 0 < 2 ^ ((-E).toNat + E.toNat) := Nat.two_pow_pos _
  refine Nat.eq_of_mul_eq_mul_right c ?_
  have t1 : N * 2 ^ (-(E - k)).toNat * B * 2 ^ ((-E).toNat + E.toNat) = N * 2 ^ (-E).toNat * B * 2 ^ ((-(E - k)).toNat + E.toNat) := by
    rw [Nat.mul_right_comm N _ B, Nat.mul_right_comm N (2 ^ (-E).toNat) B]
    simp only [Nat.mul_assoc, ← Nat.pow_add]
    congr 3
    omega
  rw [t1, h]
  simp only [Nat.mul_assoc, ← Nat.pow_add]
  rw [Nat.mul_left_comm (2 ^ k), ← Nat.pow_add]
  congr 3
  omega
theorem quot_bits {A₀ B k : Nat} (hA : 0 < A₀) (hB : 0 < B) (h : bl B ≤ bl A₀ + k - 1) : bl A₀ + k - bl B ≤ bl (A₀ * 2 ^ k / B) := by
  obtain ⟨a1, a2⟩ := bl_ge hA
  have b3 := bl_lt B
  have key : 2 ^ (bl A₀ + k - 1 - bl B) ≤ A₀ * 2 ^ k / B := by
    refine (Nat.le_div_iff_mul_le hB).mpr ?_
    have s1 : 2 ^ (bl A₀ + k - 1 - bl B) * B ≤ 2 ^ (bl A₀ + k - 1 - bl B) * 2 ^ bl B := Nat.mul_le_mul_left _ (Nat.le_of_lt b3)
    rw [← Nat.pow_add, show bl A₀ + k - 1 - bl B + bl B = bl A₀ - 1 + k by omega, Nat.pow_add] at s1
    exact Nat.le_trans s1 (Nat.mul_le_mul_right _ a1)
  have := lt_bl.mpr key
  omega
section
variable {md : Md} {sg : Int} {N D A₀ B p k : Nat} {E : Int}
theorem div_pos (hA : 0 < A₀) (hB : 0 < B) (hk : p + bl B + 5 ≤ bl A₀ + k) : 0 < A₀ * 2 ^ k / B := by
  have q := quot_bits hA hB (k := k) (by omega)
  rcases Nat.eq_zero_or_pos (A₀ * 2 ^ k / B) with h | h
  · rw [h, show bl 0 = 0 by decide] at q; omega
  · exact h
theorem div_exact (hN : 0 < N) (hD : 0 < D) (hA : 0 < A₀) (hB : 0 < B) (hp : 0 < p) (hr : up N (-E) * B = A₀ * up D E) (hk : p + bl B + 5 ≤ bl A₀ + k) (hz : A₀ * 2 ^ k % B = 0) :
    can (NZ md sg (A₀ * 2 ^ k / B) (E - k) p) = can (LR md sg N D p) := by
  refine NZ_LR hN hD (div_pos hA hB hk) hp ?_
  have h := shift_ratio k hr
  have e : A₀ * 2 ^ k = A₀ * 2 ^ k / B * B := by
    have := Nat.div_add_mod (A₀ * 2 ^ k) B
    rw [hz, Nat.add_zero, Nat.mul_comm] at this
    exact this.symm
  refine Nat.eq_of_mul_eq_mul_right hB ?_
  rw [h]
  conv => lhs; rw [e]
  rw [Nat.mul_right_comm]
theorem div_sticky (hN : 0 < N) (hD : 0 < D) (hA : 0 < A₀) (hB : 0 < B) (hp : 0 < p) (hr : up N (-E) * B = A₀ * up D E) (hk : p + bl B + 5 ≤ bl A₀ + k) (hz : A₀ * 2 ^ k % B ≠ 0) :
    can (NZ md sg (2 * (A₀ * 2 ^ k / B) + 1) (E - (k + 1 : Nat)) p) = can (LR md sg N D p) := by
  have q := quot_bits hA hB (k := k) (by omega)
  refine NZ_div hN hD hB hp hz (by omega) ?_
  rw [show E - ((k + 1 : Nat) : Int) + 1 = E - k by omega]
  exact shift_ratio k hr
theorem div_cast {a b : Int} {k : Nat} (ea : a = A₀) (eb : b = B) : (a * 2 ^ k).fdiv b = ((A₀ * 2 ^ k / B : Nat) : Int) ∧ (a * 2 ^ k).fmod b = ((A₀ * 2 ^ k % B : Nat) : Int) := by
  have e : (A₀ : Int) * 2 ^ k = ((A₀ * 2 ^ k : Nat) : Int) := by rw [cast_pow, ← Int.natCast_mul]
  rw [ea, eb, e, Int.fdiv_eq_ediv_of_nonneg _ (Int.natCast_nonneg _), Int.fmod_eq_emod_of_nonneg _ (Int.natCast_nonneg _)]
  exact ⟨(Int.natCast_ediv ..).symm, (Int.natCast_emod ..).symm⟩
end
theorem log_small {b : Nat} (h : bl b ≤ 8000) : ((b : Nat) : Int).natAbs.log2 < 9000 := by
  rw [Int.natAbs_natCast]
  rcases Nat.eq_zero_or_pos b with h0 | h0
  · subst h0; decide
  · refine (Nat.log2_lt (by omega)).mpr (Nat.lt_of_lt_of_le (bl_lt b) (Nat.pow_le_pow_right (by decide) (by omega)))
theorem quot_le {a b k x : Nat} (h : bl a ≤ x) (hk : x + k ≤ 4000) : bl (a * 2 ^ k / b) ≤ 4000 := by
  refine bl_le.mpr (Nat.lt_of_le_of_lt (Nat.div_le_self _ _) ?_)
  have h1 := bl_le.mp h
  have h2 : a * 2 ^ k < 2 ^ x * 2 ^ k := Nat.mul_lt_mul_of_pos_right h1 (Nat.two_pow_pos k)
  rw [← Nat.pow_add] at h2
  exact Nat.lt_of_lt_of_le h2 (Nat.pow_le_pow_right (by decide) hk)
theorem div_facts {sm tm p : Nat} {K : Int} (hsm : 0 < sm) (htm : 0 < tm) (hb : bl sm ≤ 1000) (h5 : 5 ≤ K) (hK : K ≤ 3000) (hk : ((p + bl tm + 5 : Nat) : Int) ≤ bl sm + K) :
    ((Builtin.Int.intBits (sm : Int) : Int) + K ≤ 2 ^ 27) ∧ ((sm : Int) * 2 ^ K.toNat).fdiv tm = ((sm * 2 ^ K.toNat / tm : Nat) : Int) ∧ ((sm : Int) * 2 ^ K.toNat).fmod tm = ((sm * 2 ^ K.toNat % tm : Nat) : Int) ∧
    0 < sm * 2 ^ K.toNat / tm ∧ bl (sm * 2 ^ K.toNat / tm) ≤ 100000 ∧ bl (2 * (sm * 2 ^ K.toNat / tm) + 1) ≤ 100000 ∧
    ((Builtin.Int.intBits (((sm : Int) * 2 ^ K.toNat).fdiv tm) : Int) + 1 ≤ 2 ^ 27) ∧ ((((sm : Int) * 2 ^ K.toNat).fdiv tm) * 2 ^ Int.toNat 1 + 1) = ((2 * (sm * 2 ^ K.toNat / tm) + 1 : Nat) : Int) := by
  have hq := div_cast (A₀ := sm) (B := tm) (k := K.toNat) rfl rfl
  have hqb : bl (sm * 2 ^ K.toNat / tm) ≤ 4000 := quot_le hb (by omega)
  have h1 : Builtin.Int.intBits (sm : Int) ≤ 1000 := hb
  have h2 : Builtin.Int.intBits ((sm * 2 ^ K.toNat / tm : Nat) : Int) ≤ 4000 := hqb
  have hk9 : p + bl tm + 5 ≤ bl sm + K.toNat := by omega
  refine ⟨by omega, hq.1, hq.2, div_pos hsm htm hk9, by omega, ?_, by rw [hq.1]; omega, ?_⟩
  · have h3 : bl (2 * (sm * 2 ^ K.toNat / tm) + 1) ≤ 4001 := by
      refine bl_le.mpr ?_
      have h1 := bl_le.mp hqb
      rw [Nat.pow_succ]
      generalize 2 ^ 4000 = y at h1 ⊢
      omega
    omega
  · rw [hq.1]
    show _ * (2 : Int) ^ 1 + 1 = _
    omega
theorem can_eqs {sg : Int} {X Y : Nat × Int} (h : can X = can Y) : sg = sg ∧ ((cm X.1 : Nat) : Int) = ((can Y).1 : Nat) ∧ (can X).2 = (can Y).2 ∧ ((bl (cm X.1) : Nat) : Int) = (bl (can Y).1 : Nat) :=
  ⟨rfl, congrArg (fun x : Nat × Int => (x.1 : Int)) h, congrArg (·.2) h, congrArg (fun x : Nat × Int => ((bl x.1 : Nat) : Int)) h⟩
theorem div_end_s {md : Md} {sg : Int} {N D sm tm p : Nat} {E K : Int} (hN : 0 < N) (hD : 0 < D) (hA : 0 < sm) (hB : 0 < tm) (hp : 0 < p) (hr : up N (-E) * tm = sm * up D E) (h5 : 5 ≤ K) (hk : ((p + bl tm + 5 : Nat) : Int) ≤ bl sm + K)
    (hz : ((sm : Int) * 2 ^ K.toNat).fmod tm = ((sm * 2 ^ K.toNat % tm : Nat) : Int)) (hc : ((sm : Int) * 2 ^ K.toNat).fmod tm ≠ 0) : can (NZ md sg (2 * (sm * 2 ^ K.toNat / tm) + 1) (E - (K + 1)) p) = can (LR md sg N D p) := by
  rw [show E - (K + 1) = E - ((K.toNat + 1 : Nat) : Int) by omega]
  exact div_sticky hN hD hA hB hp hr (by omega) (by omega)
theorem div_end_e {md : Md} {sg : Int} {N D sm tm p : Nat} {E K : Int} (hN : 0 < N) (hD : 0 < D) (hA : 0 < sm) (hB : 0 < tm) (hp : 0 < p) (hr : up N (-E) * tm = sm * up D E) (h5 : 5 ≤ K) (hk : ((p + bl tm + 5 : Nat) : Int) ≤ bl sm + K)
    (hz : ((sm : Int) * 2 ^ K.toNat).fmod tm = ((sm * 2 ^ K.toNat % tm : Nat) : Int)) (hc : ((sm : Int) * 2 ^ K.toNat).fmod tm = 0) : can (NZ md sg (sm * 2 ^ K.toNat / tm) (E - K) p) = can (LR md sg N D p) := by
  rw [show E - K = E - ((K.toNat : Nat) : Int) by omega]
  exact div_exact hN hD hA hB hp hr (by omega) (by omega)
structure DS where
  K : Int
  tk : Tok
  ts : Tok
theorem con_div (w : World) {S T : Addr} {ss ts se te : Int} {sm tm p : Nat} {prec sb tb : Int} {k1 k2 : Nat} {s1 s2 s3 s4 u1 u2 u3 u4 t1 t2 : Tok} (md : Md) (hss : ss = 0 ∨ ss = 1) (hts : ts = 0 ∨ ts = 1) (hsm : 0 < sm) (htm : 0 < tm) (hb : bl sm ≤ 1000) (hb' : bl tm ≤ 1000) (es : sb = bl sm) (et : tb = bl tm) (ep : prec = p) (hp : 0 < p) (hp2 : p ≤ 1000)
    {N₀ D₀ : Nat} (hN : 0 < N₀) (hD : 0 < D₀) (hr : up N₀ (-(se - te)) * tm = sm * up D₀ (se - te)) (news : List (Addr × Obj))
    (hS : (S, tup4 ss sm se sb s1 s2 s3 s4 k1) ∈ news) (hT : (T, tup4 ts tm te tb u1 u2 u3 u4 k2) ∈ news) :
    CT w 99 5 [.ref S, .ref T, .int prec t1, .str md.str t2] news (Builtin.bitXor ss ts) (can (LR md (Builtin.bitXor ss ts) N₀ D₀ p)).1 (can (LR md (Builtin.bitXor ss ts) N₀ D₀ p)).2 (bl (can (LR md (Builtin.bitXor ss ts) N₀ D₀ p)).1) := by
  intro mean mg mb dp un gd cn cs a ccd cl outer A₀ base h₀ L m s Q E B F X N T hk hd hu hret
  have hl : (tm : Int).natAbs.log2 < 9000 := log_small (by omega)
  k_with_none
  k_with "execs cons" => (
    (try dsimp only)
    (with_reducible show wpAny _ _ (execs (Stmt.If (Expr.Compare (Expr.Name (PySem.Str.ofString "extra") _) _ _ _) _ _ _ :: _) _) _ _ _)
    refine' execs_cut (σ := DS) (fun _ => news) (fun c => [(PySem.Str.ofString "sign", .int (Builtin.bitXor ss ts) c.ts), (PySem.Str.ofString "sman", .int sm s2), (PySem.Str.ofString "tman", .int tm u2), (PySem.Str.ofString "sexp", .int se s3), (PySem.Str.ofString "texp", .int te u3), (PySem.Str.ofString "prec", .int prec t1), (PySem.Str.ofString "rnd", .str md.str t2), (PySem.Str.ofString "extra", .int c.K c.tk)])
      (fun c => 5 ≤ c.K ∧ prec - sb + tb + 5 ≤ c.K ∧ c.K ≤ 3000) ?F ?h1 ?h2
    (case F => k_asm)
    (case' h1 => try k_fold)
    case' h2 =>
      intro c9 m9 h9 tk9 P9 F9 N9
      obtain ⟨pK, pK2, pK3⟩ := P9
      obtain ⟨hsh, hq, hz, hqp, hqb, hsb, hsh2, hsk⟩ := div_facts (p := p) hsm htm hb pK pK3 (by omega)
      try k_fold)
  k_with "call ref" => (
    (with_reducible show wpAny _ _ (call (Value.ref 44) _) _ _ _)
    first
    | ktn_call (con_normalize w md (xor_bit hss hts) rfl hsm es ep hp (Nat.le_trans hb (by decide)) _ _ _ _ _ _ _) ()
    | ktn_call (con_normalize w md (xor_bit hss hts) hsk (Nat.succ_pos _) (congrArg (fun x : Int => ((Builtin.Int.intBits x : Nat) : Int)) hsk) ep hp hsb _ _ _ _ _ _ _) ()
    | ktn_call (con_normalize w md (xor_bit hss hts) hq hqp (congrArg (fun x : Int => ((Builtin.Int.intBits x : Nat) : Int)) hq) ep hp hqb _ _ _ _ _ _ _) ())
  refine wpAny_call ?_
  k_dflt cell_enter
  k_steps
  all_goals first
    | (refine endT hret (can_eqs (NZ_LR hN hD hsm hp (by have h1 : tm = 1 := by omega
                                                         rw [h1, Nat.mul_one] at hr; exact hr))) (by assumption) (by assumption) (List.Mem.head _) (fun _ h => List.Mem.tail _ h) (by assumption))
    | (refine endT hret (can_eqs (div_end_s hN hD hsm htm hp hr pK (by omega) hz (by assumption))) (by assumption) (by assumption) (List.Mem.head _) (fun _ h => List.Mem.tail _ (List.Mem.tail _ h)) (ktn_ltOf (And.right (by assumption))))
    | (refine endT hret (can_eqs (div_end_e hN hD hsm htm hp hr pK (by omega) hz (by assumption))) (by assumption) (by assumption) (List.Mem.head _) (fun _ h => List.Mem.tail _ (List.Mem.tail _ h)) (ktn_ltOf (And.right (by assumption))))
    | (refine CutEnd.intro ⟨_, _, _⟩ (by assumption) (by assumption) (fun _ h => h) (by simp only [List.forall_mem_cons]; exact ⟨rfl, rfl, rfl, rfl, rfl, rfl, rfl, rfl, fun _ h => nomatch h⟩) (by refine ⟨?_, ?_, ?_⟩ <;> (dsimp only; omega)))
end Mine
end
section
open PySem PySem.W PySem.Spec PySem.Calls PyProof.Rows
set_option maxHeartbeats 800000
namespace Mine
section
variable {prog : Program} {w : World} {A : Around} {E : Value → Shared → Prop} {s : Shared} {X Y : Addr} {a b c d a' b' c' d' : Int} {as bs : List Addr} {Q : Value → Shared → Prop}
abbrev dat4 (a b c d : Int) : PyData := .tuple [.int a, .int b, .int c, .int d]
theorem eqv4 : PyData.eqv (dat4 a b c d) (dat4 a' b' c' d') = decide (a = a' ∧ b = b' ∧ c = c' ∧ d = d') := by
  simp only [PyData.eqv, PyData.eqvAll, Bool.and_true]
  by_cases h1 : a = a' <;> by_cases h2 : b = b' <;> by_cases h3 : c = c' <;> by_cases h4 : d = d' <;> simp [h1, h2, h3, h4]
theorem eq4 (rx : Reads s.heap (.ref X) (dat4 a b c d) as) (ry : Reads s.heap (.ref Y) (dat4 a' b' c' d') bs) (hu : A.units + 64 < cLine) (h : Q (.bool (decide (a = a' ∧ b = b' ∧ c = c' ∧ d = d'))) s) :
    wpAny (model prog w) A (compareOp .Eq (.ref X) (.ref Y)) Q E s := eq_dataH rx ry rfl rfl hu (by rw [eqv4]; exact h)
theorem ne4 (rx : Reads s.heap (.ref X) (dat4 a b c d) as) (ry : Reads s.heap (.ref Y) (dat4 a' b' c' d') bs) (hu : A.units + 64 < cLine) (h : Q (.bool (!decide (a = a' ∧ b = b' ∧ c = c' ∧ d = d'))) s) :
    wpAny (model prog w) A (compareOp .NotEq (.ref X) (.ref Y)) Q E s := ne_dataH rx ry rfl rfl hu (by rw [eqv4]; exact h)
theorem all4 {h : Heap} {t1 t2 t3 t4 : Tok} : ReadsAll h [.int a t1, .int b t2, .int c t3, .int d t4] [.int a, .int b, .int c, .int d] [] :=
  readsAll_cons_val (.int _ _) (readsAll_cons_val (.int _ _) (readsAll_cons_val (.int _ _) (readsAll_cons_val (.int _ _) .nil)))
theorem read4N {h₀ h : Heap} {L : Addr} {news : List (Addr × Obj)} {t1 t2 t3 t4 : Tok} {k : Nat} (N : News h₀ L h news) (hm : (X, tup4 a b c d t1 t2 t3 t4 k) ∈ news) : Reads h (.ref X) (dat4 a b c d) [] :=
  reads_tuple_at (N.get hm) rfl rfl all4
theorem read4K {h : Heap} {K : Frag} {l : List Value} {dd : Option Addr} {sl : Array (Option Value)} {n : Nat} {t1 t2 t3 t4 : Tok} (x : K.In h) (hl : K.lookup X = some ⟨.type "tuple", dd, .seq l.toArray n, sl⟩) (e : l = [.int a t1, .int b t2, .int c t3, .int d t4]) : Reads h (.ref X) (dat4 a b c d) [] := by
  subst e
  exact reads_tuple_at (x _ _ hl) rfl rfl all4
end
end Mine
end
section
open PySem PySem.W PySem.Spec PySem.Calls PyProof.Rows
set_option maxHeartbeats 1000000
namespace Mine
local macro_rules | `(tactic| walk_at "execs cons") => `(tactic| k_extra "execs cons")
local macro_rules | `(tactic| walk_at "call ref") => `(tactic| k_extra "call ref")
local macro_rules | `(tactic| walk_at "isTrue Subscript") => `(tactic| k_extra "isTrue Subscript")
local macro_rules | `(tactic| walk_at "eval Call") => `(tactic| (k_here; (with_reducible show wpAny _ _ (eval (Expr.Call (Expr.Name _ _) _ [] _) _) _ _ _); k_dflt (refine Call_ ?_)))
local macro_rules | `(tactic| walk_at "ite") => `(tactic| (k_here; (try dsimp only); first
  | ((with_reducible show (if (_ != (0 : Int)) = true then _ else _)); (refine ite_ne0 (fun hC => ?_) (fun hC => ?_)) <;> first | (exfalso; omega) | skip)
  | ((with_reducible show (if (decide _) = true then _ else _)); (refine ite_dec (fun hC => ?_) (fun hC => ?_)) <;> first | (exfalso; omega) | skip)
  | ((with_reducible show (if ((_ : Int) == _) = true then _ else _)); (refine ite_beq (fun hC => ?_) (fun hC => ?_)) <;> first | (exfalso; omega) | skip)))
local macro_rules | `(tactic| walk_at "binaryOp RShift int int") => `(tactic| (k_here; (with_reducible refine rshift_int ?hn ?_); (case hn => omega)))
local macro_rules | `(tactic| walk_at "inplaceOp RShift int int") => `(tactic| (k_here; (with_reducible refine irshift_int ?hn ?_); (case hn => omega)))
local macro_rules | `(tactic| ktr_call $x $c) => `(tactic| ((refine' CI.use $x ?k1 ?k2 ?k3 ?k4 ?k5 ?kK ?kd ?ku ?kR); (case k1 => k_asm); (case k2 => k_asm); (case k3 => k_asm); (case k4 => k_asm); (case k5 => k_asm); (case kK => first | exact rfl | assumption); (case kd => ktr_room); (case ku => ktr_units); (case' kR => (intro t9 h9 tk9 F9 N9; (try dsimp only); (try k_fold)))))
local macro_rules | `(tactic| ktn_call $x $c) => `(tactic| ((refine' CT.use $x ?k1 ?k2 ?k3 ?k4 ?k5 ?kK ?kd ?ku ?kR); (case k1 => k_asm); (case k2 => k_asm); (case k3 => k_asm); (case k4 => k_asm); (case k5 => k_asm); (case kK => first | exact rfl | assumption); (case kd => ktr_room); (case ku => ktr_units); (case' kR => (intro D9 u1 u2 u3 u4 k9 h9 tk9 F9 N9 l9; (try k_lt l9); (try dsimp only); (try k_fold)))))
local macro_rules | `(tactic| ktr_call $x $c) => `(tactic| ((refine' CF.use $x ?k1 ?k2 ?k3 ?k4 ?k5 ?kK ?kd ?ku ?kR); (case k1 => k_asm); (case k2 => k_asm); (case k3 => k_asm); (case k4 => k_asm); (case k5 => k_asm); (case kK => first | exact rfl | assumption); (case kd => ktr_room); (case ku => ktr_units); (case' kR => (intro h9 tk9 F9 N9; (try dsimp only); (try k_fold)))))
local macro_rules | `(tactic| cell_enter) => `(tactic| (refine' code_def ?k1 ?k2 ?k3 ?k4 ?k5 ?kA ?kF ?kK ?k6 ?k7 ?k8 ?k9 ?kB ?_ ?c2 ?c3 ?c4 ?c5; (case kA => exact rfl); (case kF => exact rfl); (case kK => first | exact rfl | assumption); (case k1 => k_asm); (case k2 => k_asm); (case k3 => k_asm); (case k4 => k_asm); (case k5 => k_asm); (case k6 => k_is); (case k7 => k_is); (case k8 => ktr_room); (case k9 => first | exact BindsTo.of_eq rfl | exact binds_K (by k_in) rfl (by k_is) rfl rfl rfl); (case c5 => decide); (case kB => exact locs rfl); (case c2 => exact rfl); (case c3 => exact rfl); (case c4 => exact rfl); k_whole; intro g' L' h' FG' F' N' B' X' T'; (try dsimp only); (try k_lift B'); (try k_fold)))
local macro_rules | `(tactic| walk_at "binaryOp LShift int int") => `(tactic| (k_here; first
  | ((with_reducible refine lshift_int_small ?ha ?hb ?hc ?_); (case ha => omega); (case hb => omega); (case hc => decide))
  | ((with_reducible refine lshift_int ?ha ?hb ?_); (case ha => omega); (case hb => omega))))
local macro_rules | `(tactic| walk_at "call builtin:divmod") => `(tactic| (k_here; (with_reducible show wpAny _ _ (call (Value.builtin _) [Value.int _ _, Value.int _ _]) _ _ _); refine divmod_N (by assumption) (by assumption) (by omega) ?_ (Or.inl (PyProof.noPylong_of_log2 (by assumption))); intro _ _ _))
local macro_rules | `(tactic| ked_read) => `(tactic| first | exact read4N (by k_asm) (by k_mem) | exact read4K (by k_in) (by k_is) rfl)
local macro_rules | `(tactic| walk_at "compareOp Eq ref ref") => `(tactic| (k_here; (with_reducible show wpAny _ _ (compareOp CmpOp.Eq (Value.ref _) (Value.ref _)) _ _ _); k_dflt ((refine' eq4 ?hX ?hY ?hu ?_); (case hX => ked_read); (case hY => ked_read); (case hu => ktr_units))))
local macro_rules | `(tactic| ktn_call $x $c) => `(tactic| ((refine' C2.use $x ?k1 ?k2 ?k3 ?k4 ?k5 ?kK ?kd ?ku ?kR); (case k1 => k_asm); (case k2 => k_asm); (case k3 => k_asm); (case k4 => k_asm); (case k5 => k_asm); (case kK => first | exact rfl | assumption); (case kd => ktr_room); (case ku => ktr_units); (case' kR => (intro D9 u1 u2 k9 h9 tk9 F9 N9 l9; (try k_lt l9); (try dsimp only); (try k_fold)))))
local macro_rules | `(tactic| walk_at "binaryOp Pow int int") => `(tactic| (k_here; (with_reducible refine pow2 ?ha ?hb ?_); (case ha => omega); (case hb => omega)))
theorem con_div0 (w : World) {S T : Addr} {ts te tm : Int} {prec tb : Int} {k1 k2 : Nat} {s1 s2 s3 s4 u1 u2 u3 u4 t1 t2 : Tok} (md : Md) (ht : 0 < tm) (news : List (Addr × Obj))
    (hS : (S, tup4 0 0 0 0 s1 s2 s3 s4 k1) ∈ news) (hT : (T, tup4 ts tm te tb u1 u2 u3 u4 k2) ∈ news) :
    CF w 99 12 [.ref S, .ref T, .int prec t1, .str md.str t2] news 22 := by
  intro mean mg mb dp un gd cn cs a ccd cl outer A₀ base h₀ L m s Q E B F X N T hk hd hu hret
  k_with_none
  refine wpAny_call ?_
  k_dflt cell_enter
  k_steps
  all_goals (refine endF hret (by assumption) (by assumption) (by first | exact fun _ h => h | exact fun _ h => List.Mem.tail _ h))
theorem con_div0f (w : World) {T : Addr} {ts te tm : Int} {prec tb : Int} {k2 : Nat} {u1 u2 u3 u4 t1 t2 : Tok} (md : Md) (ht : 0 < tm) (news : List (Addr × Obj))
    (hT : (T, tup4 ts tm te tb u1 u2 u3 u4 k2) ∈ news) :
    CF w 99 12 [.ref 22, .ref T, .int prec t1, .str md.str t2] news 22 := by
  intro mean mg mb dp un gd cn cs a ccd cl outer A₀ base h₀ L m s Q E B F X N T hk hd hu hret
  k_with_none
  refine wpAny_call ?_
  k_dflt cell_enter
  k_steps
  all_goals (refine endF hret (by assumption) (by assumption) (by first | exact fun _ h => h | exact fun _ h => List.Mem.tail _ h))
theorem con_rdiv0 (w : World) {T : Addr} {ts te tm : Int} {prec tb : Int} {k2 : Nat} {u1 u2 u3 u4 t0 t1 t2 : Tok} (md : Md) (ht : 0 < tm) (news : List (Addr × Obj))
    (hT : (T, tup4 ts tm te tb u1 u2 u3 u4 k2) ∈ news) :
    CF w 107 14 [.int 0 t0, .ref T, .int prec t1, .str md.str t2] news 22 := by
  intro mean mg mb dp un gd cn cs a ccd cl outer A₀ base h₀ L m s Q E B F X N T hk hd hu hret
  k_with_none
  k_with "call ref" => (
    first
    | (with_reducible show wpAny _ _ (call (Value.ref 60) _) _ _ _); ktr_call (con_from_int0 w _ _) ()
    | (with_reducible show wpAny _ _ (call (Value.ref 99) _) _ _ _); ktr_call (con_div0f w md ht _ hT) ())
  refine wpAny_call ?_
  k_dflt cell_enter
  k_steps
  all_goals (refine endF hret (by assumption) (by assumption) (by first | exact fun _ h => h | exact fun _ h => List.Mem.tail _ h))
theorem con_rat0 (w : World) {q : Int} {prec : Int} {t0 t3 t1 t2 : Tok} (md : Md) (hq : q ≠ 0) (news : List (Addr × Obj)) :
    CF w 68 14 [.int 0 t0, .int q t3, .int prec t1, .str md.str t2] news 22 := by
  intro mean mg mb dp un gd cn cs a ccd cl outer A₀ base h₀ L m s Q E B F X N T hk hd hu hret
  have ht : (0 : Int) < (cm q.natAbs : Nat) := by have := cm_pos (m := q.natAbs) (by omega); omega
  k_with_none
  k_with "call ref" => (
    first
    | (with_reducible show wpAny _ _ (call (Value.ref 60) [Value.int 0 _]) _ _ _); ktr_call (con_from_int0 w _ _) ()
    | (with_reducible show wpAny _ _ (call (Value.ref 60) _) _ _ _); ktn_call (con_from_int w hq _ _) ()
    | (with_reducible show wpAny _ _ (call (Value.ref 99) _) _ _ _); ktr_call (con_div0f w md ht _ (List.Mem.head _)) ())
  refine wpAny_call ?_
  k_dflt cell_enter
  k_steps
  all_goals (refine endF hret (by assumption) (by assumption) (by first | exact fun _ h => h | exact fun _ h => List.Mem.tail _ h))
theorem rat_ratio {a b : Nat} (ha : 0 < a) (hb : 0 < b) : up a (-((v2 a : Int) - v2 b)) * cm b = cm a * up b ((v2 a : Int) - v2 b) := by
  have e1 := (v2_spec a ha).1
  have e2 := (v2_spec b hb).1
  have t1 : up a (-((v2 a : Int) - v2 b)) * cm b = cm a * 2 ^ v2 a * 2 ^ (-((v2 a : Int) - v2 b)).toNat * cm b := by rw [e1]
  have t2 : cm a * up b ((v2 a : Int) - v2 b) = cm a * (cm b * 2 ^ v2 b * 2 ^ ((v2 a : Int) - v2 b).toNat) := by rw [e2]
  rw [t1, t2]
  generalize cm a = x
  generalize cm b = y
  rw [Nat.mul_comm _ y, Nat.mul_assoc x, ← Nat.pow_add, Nat.mul_assoc y, ← Nat.pow_add, Nat.mul_left_comm]
  congr 3
  omega
theorem bl_cm_le {a : Nat} {k : Nat} (h : bl a ≤ k) : bl (cm a) ≤ k := bl_le.mpr (Nat.lt_of_le_of_lt (Nat.div_le_self _ _) (bl_le.mp h))
theorem sgn_bit (n : Int) : (if n < 0 then (1 : Int) else 0) = 0 ∨ (if n < 0 then (1 : Int) else 0) = 1 := by split <;> simp
theorem con_rat (w : World) {x q : Int} {p : Nat} {prec : Int} {t0 t3 t1 t2 : Tok} (md : Md) (hx : x ≠ 0) (hq : q ≠ 0) (hb : bl x.natAbs ≤ 1000) (hb' : bl q.natAbs ≤ 1000) (ep : prec = p) (hp : 0 < p) (hp2 : p ≤ 1000) (news : List (Addr × Obj)) :
    CT w 68 10 [.int x t0, .int q t3, .int prec t1, .str md.str t2] news (Builtin.bitXor (if x < 0 then 1 else 0) (if q < 0 then 1 else 0))
      (can (LR md (Builtin.bitXor (if x < 0 then 1 else 0) (if q < 0 then 1 else 0)) x.natAbs q.natAbs p)).1 (can (LR md (Builtin.bitXor (if x < 0 then 1 else 0) (if q < 0 then 1 else 0)) x.natAbs q.natAbs p)).2 (bl (can (LR md (Builtin.bitXor (if x < 0 then 1 else 0) (if q < 0 then 1 else 0)) x.natAbs q.natAbs p)).1) := by
  intro mean mg mb dp un gd cn cs a ccd cl outer A₀ base h₀ L m s Q E B F X N T hk hd hu hret
  have hx' : 0 < x.natAbs := by omega
  have hq' : 0 < q.natAbs := by omega
  have hr := rat_ratio hx' hq'
  k_with_none
  k_with "call ref" => (
    first
    | (with_reducible show wpAny _ _ (call (Value.ref 60) [Value.int x _]) _ _ _); ktn_call (con_from_int w hx _ _) ()
    | (with_reducible show wpAny _ _ (call (Value.ref 60) _) _ _ _); ktn_call (con_from_int w hq _ _) ()
    | (with_reducible show wpAny _ _ (call (Value.ref 99) _) _ _ _); ktn_call (con_div w md (sgn_bit x) (sgn_bit q) (cm_pos hx') (cm_pos hq') (bl_cm_le hb) (bl_cm_le hb') rfl rfl ep hp hp2 hx' hq' hr _ (List.Mem.tail _ (List.Mem.head _)) (List.Mem.head _)) ())
  refine wpAny_call ?_
  k_dflt cell_enter
  k_steps
  all_goals (refine endT hret ⟨rfl, rfl, rfl, rfl⟩ (by assumption) (by assumption) (List.Mem.head _) (fun _ h => List.Mem.tail _ (List.Mem.tail _ (List.Mem.tail _ h))) (ktn_ltOf (And.right (And.right (by assumption)))))
theorem con_rdiv (w : World) {T : Addr} {n ts te : Int} {tm p : Nat} {prec tb : Int} {k2 : Nat} {u1 u2 u3 u4 t0 t1 t2 : Tok} (md : Md) (hts : ts = 0 ∨ ts = 1) (h0 : n ≠ 0) (htm : 0 < tm) (hb : bl n.natAbs ≤ 1000) (hb' : bl tm ≤ 1000) (et : tb = bl tm) (ep : prec = p) (hp : 0 < p) (hp2 : p ≤ 1000)
    {N₀ D₀ : Nat} (hN : 0 < N₀) (hD : 0 < D₀) (hr : up N₀ (-(-te)) * tm = n.natAbs * up D₀ (-te)) (news : List (Addr × Obj))
    (hT : (T, tup4 ts tm te tb u1 u2 u3 u4 k2) ∈ news) :
    CT w 107 6 [.int n t0, .ref T, .int prec t1, .str md.str t2] news (Builtin.bitXor ts (if n < 0 then 1 else 0)) (can (LR md (Builtin.bitXor ts (if n < 0 then 1 else 0)) N₀ D₀ p)).1 (can (LR md (Builtin.bitXor ts (if n < 0 then 1 else 0)) N₀ D₀ p)).2 (bl (can (LR md (Builtin.bitXor ts (if n < 0 then 1 else 0)) N₀ D₀ p)).1) := by
  have hx : ∃ sg : Int, (sg = 0 ∨ sg = 1) ∧ Builtin.bitXor ts (if n < 0 then 1 else 0) = sg ∧ (n < 0 → Builtin.bitXor ts 1 = sg) ∧ (¬ n < 0 → ts = sg) := by
    by_cases hn : n < 0
    · exact ⟨_, xor_bit hts (.inr rfl), by rw [if_pos hn], fun _ => rfl, fun h => absurd hn h⟩
    · exact ⟨ts, hts, by rw [if_neg hn, bitXor_zero], fun h => absurd h hn, fun _ => rfl⟩
  obtain ⟨sg, hsg, ex, ex1, ex2⟩ := hx
  rw [ex]
  intro mean mg mb dp un gd cn cs a ccd cl outer A₀ base h₀ L m s Q E B F X N T hk hd hu hret
  have hl : (tm : Int).natAbs.log2 < 9000 := log_small (by omega)
  have h0' : 0 < n.natAbs := by omega
  generalize hsm : n.natAbs = sm at *
  have hK : ∀ K : Int, K = prec + tb + 5 → 5 ≤ K ∧ K ≤ 3000 ∧ ((p + bl tm + 5 : Nat) : Int) ≤ bl sm + K := fun K e => by omega
  obtain ⟨pK, pK3, pk⟩ := hK _ rfl
  obtain ⟨hsh, hq, hz, hqp, hqb, hsb, hsh2, hsk⟩ := div_facts (p := p) h0' htm hb pK pK3 pk
  k_with_none
  k_with "execs cons" => (
    (try dsimp only)
    (with_reducible show wpAny _ _ (execs (Stmt.If (Expr.Compare (Expr.Name (PySem.Str.ofString "n") _) _ _ _) _ _ _ :: _) _) _ _ _)
    refine' execs_cut (σ := Tok × Tok) (fun _ => news) (fun c => [(PySem.Str.ofString "sign", .int sg c.1), (PySem.Str.ofString "n", .int sm c.2), (PySem.Str.ofString "man", .int tm u2), (PySem.Str.ofString "exp", .int te u3), (PySem.Str.ofString "bc", .int tb u4), (PySem.Str.ofString "prec", .int prec t1), (PySem.Str.ofString "rnd", .str md.str t2)])
      (fun c => True) ?F ?h1 ?h2
    (case F => k_asm)
    (case' h1 => try k_fold)
    case' h2 =>
      intro c9 m9 h9 tk9 P9 F9 N9
      try k_fold)
  k_with "call ref" => (
    (with_reducible show wpAny _ _ (call (Value.ref 44) _) _ _ _)
    first
    | ktn_call (con_normalize w md hsg hsk (Nat.succ_pos _) (congrArg (fun x : Int => ((Builtin.Int.intBits x : Nat) : Int)) hsk) ep hp hsb _ _ _ _ _ _ _) ()
    | ktn_call (con_normalize w md hsg hq hqp (congrArg (fun x : Int => ((Builtin.Int.intBits x : Nat) : Int)) hq) ep hp hqb _ _ _ _ _ _ _) ())
  refine wpAny_call ?_
  k_dflt cell_enter
  k_steps
  all_goals first
    | (refine endT hret (can_eqs (div_end_s hN hD h0' htm hp hr pK pk hz (by assumption))) (by assumption) (by assumption) (List.Mem.head _) (fun _ h => List.Mem.tail _ (List.Mem.tail _ h)) (ktn_ltOf (And.right (by assumption))))
    | (refine endT hret (can_eqs (div_end_e hN hD h0' htm hp hr pK pk hz (by assumption))) (by assumption) (by assumption) (List.Mem.head _) (fun _ h => List.Mem.tail _ (List.Mem.tail _ h)) (ktn_ltOf (And.right (by assumption))))
    | (refine CutEnd.intro ⟨_, _⟩ (by assumption) (by assumption) (fun _ h => h) (by simp only [List.forall_mem_cons]; exact ⟨congrArg (fun x => some (Value.int x _)) (ex1 (by assumption)), congrArg (fun x => some (Value.int x _)) (by omega : -n = (sm : Int)), rfl, rfl, rfl, rfl, rfl, fun _ h => nomatch h⟩) True.intro)
    | (refine CutEnd.intro ⟨_, _⟩ (by assumption) (by assumption) (fun _ h => h) (by simp only [List.forall_mem_cons]; exact ⟨congrArg (fun x => some (Value.int x _)) (ex2 (by assumption)), congrArg (fun x => some (Value.int x _)) (by omega : n = (sm : Int)), rfl, rfl, rfl, rfl, rfl, fun _ h => nomatch h⟩) True.intro)
end Mine
end
section
open PySem PySem.W PySem.Spec PySem.Calls PyProof.Rows
set_option maxHeartbeats 800000
namespace Mine
abbrev tup2 (a b : Int) (t1 t2 : Tok) (k : Nat) : Obj := { cls := .type "tuple", data := .seq #[.int a t1, .int b t2] k }
abbrev RetX (h₀ : Heap) (L : Addr) (m : Str → Option Value) (news : List (Addr × Obj)) (s : Shared) (Q : Value → Shared → Prop) : Prop :=
  ∀ (x : Int) (t : Tok) (h' : Heap) (tk' : Nat), Fr h₀ L h' m → News h₀ L h' news → Q (.int x t) { s with heap := h', toks := tk' }
abbrev Ret2 (h₀ : Heap) (L : Addr) (m : Str → Option Value) (news : List (Addr × Obj)) (s : Shared) (Q : Value → Shared → Prop) (a b : Int) : Prop :=
  ∀ (D : Addr) (t1 t2 : Tok) (k : Nat) (h' : Heap) (tk' : Nat), Fr h₀ L h' m → News h₀ L h' ((D, tup2 a b t1 t2 k) :: news) → (∀ p ∈ news, p.1 < D) → Q (.ref D) { s with heap := h', toks := tk' }
def WfN (sg : Int) (mn : Nat) (e : Int) : Prop := (mn = 0 ∧ sg = 0 ∧ e = 0) ∨ (mn % 2 = 1 ∧ (sg = 0 ∨ sg = 1) ∧ bl mn ≤ 90 ∧ -2000 ≤ e ∧ e ≤ 2000)
abbrev RetW (h₀ : Heap) (L : Addr) (m : Str → Option Value) (news : List (Addr × Obj)) (s : Shared) (Q : Value → Shared → Prop) : Prop :=
  ∀ (D : Addr) (sg : Int) (mn : Nat) (e : Int) (t1 t2 t3 t4 : Tok) (k : Nat) (h' : Heap) (tk' : Nat), WfN sg mn e → Fr h₀ L h' m → News h₀ L h' ((D, tup4 sg mn e (bl mn) t1 t2 t3 t4 k) :: news) → (∀ p ∈ news, p.1 < D) → Q (.ref D) { s with heap := h', toks := tk' }
abbrev CallL (w : World) (f : Addr) (n : Nat) (vs : List Value) (l : Addr) (lv : List Value) (ns : List Int) (news : List (Addr × Obj)) (R : Heap → Addr → (Str → Option Value) → Shared → (Value → Shared → Prop) → Prop) : Prop :=
  ∀ (mean : ExcName → Option Value) (mg mb : Str → Option Value) (dp un : Nat) (gd : Option (List Code)) (cn : Str) (cs : Scope) (a : Addr) (ccd : Value) (cl : List (Str × Addr)) (outer : List Env) (A₀ : Around) (base h₀ : Heap) (L : Addr) (m : Str → Option Value) (s : Shared) (Q E : Value → Shared → Prop),
    Below A₀ base outer h₀ → Fr h₀ L s.heap m → (hd.heap_39 w.params).In h₀ → News h₀ L s.heap news → Top hd.view_39 LS mean mg mb h₀ → cs.kind = .function →
    base.IsList l lv.toArray → IntsAre lv ns → ns.length < 2 ^ 62 →
    dp + n < recursionLimit → un + 8 * n < cLine → R h₀ L m s Q →
    wpAny (model PySem.Challenge.pw_ah5003_01 w) (ktrTop dp un gd cn cs L a ccd cl outer) (call (.ref f) vs) Q E s
def CX (w : World) (f : Addr) (n : Nat) (vs : List Value) (l : Addr) (lv : List Value) (ns : List Int) (news : List (Addr × Obj)) : Prop :=
  CallL w f n vs l lv ns news fun h₀ L m s Q => RetX h₀ L m news s Q
def C2 (w : World) (f : Addr) (n : Nat) (vs : List Value) (news : List (Addr × Obj)) (a b : Int) : Prop :=
  Call w f n vs news fun h₀ L m s Q => Ret2 h₀ L m news s Q a b
def CW (w : World) (f : Addr) (n : Nat) (vs : List Value) (news : List (Addr × Obj)) : Prop :=
  Call w f n vs news fun h₀ L m s Q => RetW h₀ L m news s Q
section
variable {w : World} {f : Addr} {n : Nat} {vs lv : List Value} {l : Addr} {ns : List Int} {news : List (Addr × Obj)} {x a' b' : Int}
  {mean : ExcName → Option Value} {mg mb : Str → Option Value} {dp un : Nat} {gd : Option (List Code)} {cn : Str} {cs : Scope} {a : Addr} {ccd : Value} {cl : List (Str × Addr)} {outer : List Env} {A₀ : Around} {base h₀ : Heap} {L : Addr} {m : Str → Option Value} {s : Shared} {Q E : Value → Shared → Prop}
theorem CX.use (c : CX w f n vs l lv ns news) (B : Below A₀ base outer h₀) (F : Fr h₀ L s.heap m) (X : (hd.heap_39 w.params).In h₀) (N : News h₀ L s.heap news) (T : Top hd.view_39 LS mean mg mb h₀) (hk : cs.kind = .function)
    (hl : base.IsList l lv.toArray) (hi : IntsAre lv ns) (hf : ns.length < 2 ^ 62)
    (hd : dp + n < recursionLimit) (hu : un + 8 * n < cLine) (hr : RetX h₀ L m news s Q) :
    wpAny (model PySem.Challenge.pw_ah5003_01 w) (ktrTop dp un gd cn cs L a ccd cl outer) (call (.ref f) vs) Q E s := c _ _ _ _ _ _ _ _ _ _ _ _ _ _ _ _ _ _ _ _ B F X N T hk hl hi hf hd hu hr
theorem C2.use (c : C2 w f n vs news a' b') (B : Below A₀ base outer h₀) (F : Fr h₀ L s.heap m) (X : (hd.heap_39 w.params).In h₀) (N : News h₀ L s.heap news) (T : Top hd.view_39 LS mean mg mb h₀) (hk : cs.kind = .function)
    (hd : dp + n < recursionLimit) (hu : un + 8 * n < cLine) (hr : Ret2 h₀ L m news s Q a' b') :
    wpAny (model PySem.Challenge.pw_ah5003_01 w) (ktrTop dp un gd cn cs L a ccd cl outer) (call (.ref f) vs) Q E s := c _ _ _ _ _ _ _ _ _ _ _ _ _ _ _ _ _ _ _ _ B F X N T hk hd hu hr
theorem CW.use (c : CW w f n vs news) (B : Below A₀ base outer h₀) (F : Fr h₀ L s.heap m) (X : (hd.heap_39 w.params).In h₀) (N : News h₀ L s.heap news) (T : Top hd.view_39 LS mean mg mb h₀) (hk : cs.kind = .function)
    (hd : dp + n < recursionLimit) (hu : un + 8 * n < cLine) (hr : RetW h₀ L m news s Q) :
    wpAny (model PySem.Challenge.pw_ah5003_01 w) (ktrTop dp un gd cn cs L a ccd cl outer) (call (.ref f) vs) Q E s := c _ _ _ _ _ _ _ _ _ _ _ _ _ _ _ _ _ _ _ _ B F X N T hk hd hu hr
theorem end2 {D : Addr} {a b : Int} {t1 t2 : Tok} {k : Nat} {h' : Heap} {tk' : Nat} {news' : List (Addr × Obj)} (hr : Ret2 h₀ L m news s Q a' b') (e : a = a' ∧ b = b') (F : Fr h₀ L h' m) (N : News h₀ L h' news')
    (hm : (D, tup2 a b t1 t2 k) ∈ news') (hs : ∀ p ∈ news, p ∈ news') (hl : ∀ p ∈ news, p.1 < D) :
    Q (.ref D) { s with heap := h', toks := tk' } := by
  obtain ⟨rfl, rfl⟩ := e
  exact hr D t1 t2 k h' tk' F (fun p hp => (List.mem_cons.mp hp).elim (fun q => q ▸ N _ hm) fun q => N p (hs p q)) hl
theorem endW {D : Addr} {sg ma e b : Int} {t1 t2 t3 t4 : Tok} {k : Nat} {h' : Heap} {tk' : Nat} {news' : List (Addr × Obj)} (hr : RetW h₀ L m news s Q) (mn : Nat) (em : ma = mn) (eb : b = bl mn) (hw : WfN sg mn e) (F : Fr h₀ L h' m) (N : News h₀ L h' news')
    (hm : (D, tup4 sg ma e b t1 t2 t3 t4 k) ∈ news') (hs : ∀ p ∈ news, p ∈ news') (hl : ∀ p ∈ news, p.1 < D) :
    Q (.ref D) { s with heap := h', toks := tk' } := by
  subst em eb
  exact hr D sg mn e t1 t2 t3 t4 k h' tk' hw F (fun p hp => (List.mem_cons.mp hp).elim (fun q => q ▸ N _ hm) fun q => N p (hs p q)) hl
theorem endWx {D : Addr} {sg M e b : Int} {t1 t2 t3 t4 : Tok} {k : Nat} {h' : Heap} {tk' : Nat} {news' : List (Addr × Obj)} (hr : RetW h₀ L m news s Q) (hw : M = (M.toNat : Int) ∧ b = (bl M.toNat : Nat) ∧ WfN sg M.toNat e) (F : Fr h₀ L h' m) (N : News h₀ L h' news')
    (hm : (D, tup4 sg M e b t1 t2 t3 t4 k) ∈ news') (hs : ∀ p ∈ news, p ∈ news') (hl : ∀ p ∈ news, p.1 < D) :
    Q (.ref D) { s with heap := h', toks := tk' } := endW hr M.toNat hw.1 hw.2.1 hw.2.2 F N hm hs hl
end
/-- a while by what holds of it -/
theorem while_cut {σ : Type} {prog : Program} {w : World} {A : Around} {E : Value → Shared → Prop} {s : Shared} {env : Env} {h₀ : Heap} {L : Addr} {test : Expr} {body : List Stmt} {pos : Pos} {Q : Flow → Shared → Prop} {m : Str → Option Value}
    (led : σ → List (Addr × Obj)) (ps : σ → List (Str × Value)) (P : σ → Prop) (μ : σ → Nat) (c₀ : σ) (F : Fr h₀ L s.heap m) (N : News h₀ L s.heap (led c₀)) (hk : ∀ p ∈ ps c₀, m p.1 = some p.2) (hp : P c₀)
    (turn : ∀ c m' h tk, P c → Fr h₀ L h (kstB m' (ps c)) → News h₀ L h (led c) → wpAny (model prog w) A (isTrue test env (eval test env)) (fun b s₂ => if b = true then wpAny (model prog w) A (execs body env) (CutEnd h₀ L led ps (fun c' => P c' ∧ μ c' < μ c) s) E s₂ else Q .next s₂) E { s with heap := h, toks := tk })
    (hE : PassesOwn (model prog w) A env E) : wpAny (model prog w) A (exec (.While test body [] pos) env) Q E s := by
  refine While_inv (fun n m₁ news₁ => ∃ c, μ c = n ∧ P c ∧ (∀ p ∈ led c, p ∈ news₁) ∧ (∀ p ∈ ps c, m₁ p.1 = some p.2)) F N ⟨c₀, rfl, hp, fun _ h => h, hk⟩ ?_ hE
  rintro n m₁ news₁ h₁ tk₁ F₁ N₁ ⟨c, rfl, hP, hl, hm⟩
  have em : kstB m₁ (ps c) = m₁ := funext fun y => kstB_eq hm fun _ => rfl
  refine wpAny_mono (turn c m₁ h₁ tk₁ hP (em.symm ▸ F₁) fun p hp => N₁ p (hl p hp)) (fun b s₂ q => ?_) fun _ _ x => x
  cases b with
  | false => simpa using q
  | true =>
    simp only [if_true] at q ⊢
    refine wpAny_mono q (fun f s₃ r => ?_) fun _ _ x => x
    obtain ⟨rfl, c', m', news', h, tk, rfl, F', N', hl', hp', hP', hμ⟩ := r
    exact ⟨rfl, h, tk, m', news', μ c', rfl, F', N', hμ, c', rfl, hP', hl', hp'⟩
end Mine
namespace Mine
section
variable {prog : Program} {w : World} {A : Around} {E : Value → Shared → Prop} {s : Shared} {a b n : Int} {t u : Tok} {Q : Value → Shared → Prop}
theorem pow2_pos (k : Nat) : (0 : Int) < 2 ^ k := by rw [cast_pow]; have := Nat.two_pow_pos k; omega
theorem mod_gen (hb : 0 < b) (h : ∀ r, 0 ≤ r → r < b → Q (.int r s.toks) { s with toks := s.toks + 1 }) : wpAny (model prog w) A (binaryOp .Mod (.int a t) (.int b u)) Q E s := by
  refine mod_int' (by omega) (h _ ?_ ?_)
  · rw [Int.fmod_eq_emod_of_nonneg _ (by omega)]; exact Int.emod_nonneg _ (by omega)
  · rw [Int.fmod_eq_emod_of_nonneg _ (by omega)]; exact Int.emod_lt_of_pos _ hb
theorem div_gen (hb : 0 < b) (hp : Builtin.divisionGoesByPylong a b = false) (h : ∀ q, b * q ≤ a → a < b * q + b → Q (.int q s.toks) { s with toks := s.toks + 1 }) : wpAny (model prog w) A (binaryOp .FloorDiv (.int a t) (.int b u)) Q E s := by
  refine floordiv_int (by omega) (h _ ?_ ?_) (Or.inl hp)
  · rw [Int.fdiv_eq_ediv_of_nonneg _ (by omega)]; exact Int.mul_ediv_self_le (by omega)
  · rw [Int.fdiv_eq_ediv_of_nonneg _ (by omega)]; exact Int.lt_mul_ediv_self_add hb
theorem pow2 (hn : 0 ≤ n) (h2 : n ≤ 1000000) (h : Q (.int (2 ^ n.toNat) s.toks) { s with toks := s.toks + 1 }) : wpAny (model prog w) A (binaryOp .Pow (.int 2 t) (.int n u)) Q E s :=
  pow_int_small hn h2 (by decide) h
theorem pow10 (hn : 0 ≤ n) (h2 : n ≤ 1000000) (h : Q (.int (10 ^ n.toNat) s.toks) { s with toks := s.toks + 1 }) : wpAny (model prog w) A (binaryOp .Pow (.int 10 t) (.int n u)) Q E s :=
  pow_int_small hn h2 (by decide) h
end
end Mine
namespace Mine
theorem ps_nil {m : Str → Option Value} : ∀ p ∈ ([] : List (Str × Value)), m p.1 = some p.2 := fun _ h => nomatch h
theorem ps_cons {m : Str → Option Value} {x : Str} {v : Value} {r : List (Str × Value)} (h : m x = some v) (t : ∀ p ∈ r, m p.1 = some p.2) : ∀ p ∈ (x, v) :: r, m p.1 = some p.2 := fun p hp => by
  rcases List.mem_cons.mp hp with rfl | hp
  · exact h
  · exact t p hp
end Mine
namespace Mine
abbrev RetB (h₀ : Heap) (L : Addr) (m : Str → Option Value) (news : List (Addr × Obj)) (s : Shared) (Q : Value → Shared → Prop) : Prop :=
  ∀ (h' : Heap) (tk' : Nat), Fr h₀ L h' m → News h₀ L h' news → Q (.bool true) { s with heap := h', toks := tk' }
def CB (w : World) (f : Addr) (n : Nat) (vs : List Value) (news : List (Addr × Obj)) : Prop :=
  Call w f n vs news fun h₀ L m s Q => RetB h₀ L m news s Q
section
variable {w : World} {f : Addr} {n : Nat} {vs : List Value} {news : List (Addr × Obj)}
  {mean : ExcName → Option Value} {mg mb : Str → Option Value} {dp un : Nat} {gd : Option (List Code)} {cn : Str} {cs : Scope} {a : Addr} {ccd : Value} {cl : List (Str × Addr)} {outer : List Env} {A₀ : Around} {base h₀ : Heap} {L : Addr} {m : Str → Option Value} {s : Shared} {Q E : Value → Shared → Prop}
theorem CB.use (c : CB w f n vs news) (B : Below A₀ base outer h₀) (F : Fr h₀ L s.heap m) (X : (hd.heap_39 w.params).In h₀) (N : News h₀ L s.heap news) (T : Top hd.view_39 LS mean mg mb h₀) (hk : cs.kind = .function)
    (hd : dp + n < recursionLimit) (hu : un + 8 * n < cLine) (hr : RetB h₀ L m news s Q) :
    wpAny (model PySem.Challenge.pw_ah5003_01 w) (ktrTop dp un gd cn cs L a ccd cl outer) (call (.ref f) vs) Q E s := c _ _ _ _ _ _ _ _ _ _ _ _ _ _ _ _ _ _ _ _ B F X N T hk hd hu hr
theorem endB {h' : Heap} {tk' : Nat} {news' : List (Addr × Obj)} (hr : RetB h₀ L m news s Q) (F : Fr h₀ L h' m) (N : News h₀ L h' news') (hs : ∀ p ∈ news, p ∈ news') :
    Q (.bool true) { s with heap := h', toks := tk' } := hr h' tk' F fun p hp => N p (hs p hp)
end
end Mine
end
section
open PySem PySem.W PySem.Spec PySem.Calls PyProof.Rows
set_option maxHeartbeats 1000000
namespace Mine
local macro_rules | `(tactic| walk_at "execs cons") => `(tactic| k_extra "execs cons")
local macro_rules | `(tactic| walk_at "call ref") => `(tactic| k_extra "call ref")
local macro_rules | `(tactic| walk_at "isTrue Subscript") => `(tactic| k_extra "isTrue Subscript")
local macro_rules | `(tactic| walk_at "eval Call") => `(tactic| (k_here; (with_reducible show wpAny _ _ (eval (Expr.Call (Expr.Name _ _) _ [] _) _) _ _ _); k_dflt (refine Call_ ?_)))
local macro_rules | `(tactic| walk_at "ite") => `(tactic| (k_here; (try dsimp only); first
  | ((with_reducible show (if (_ != (0 : Int)) = true then _ else _)); (refine ite_ne0 (fun hC => ?_) (fun hC => ?_)) <;> first | (exfalso; omega) | skip)
  | ((with_reducible show (if (decide _) = true then _ else _)); (refine ite_dec (fun hC => ?_) (fun hC => ?_)) <;> first | (exfalso; omega) | skip)
  | ((with_reducible show (if ((_ : Int) == _) = true then _ else _)); (refine ite_beq (fun hC => ?_) (fun hC => ?_)) <;> first | (exfalso; omega) | skip)))
local macro_rules | `(tactic| walk_at "binaryOp RShift int int") => `(tactic| (k_here; (with_reducible refine rshift_int ?hn ?_); (case hn => omega)))
local macro_rules | `(tactic| walk_at "inplaceOp RShift int int") => `(tactic| (k_here; (with_reducible refine irshift_int ?hn ?_); (case hn => omega)))
local macro_rules | `(tactic| ktr_call $x $c) => `(tactic| ((refine' CI.use $x ?k1 ?k2 ?k3 ?k4 ?k5 ?kK ?kd ?ku ?kR); (case k1 => k_asm); (case k2 => k_asm); (case k3 => k_asm); (case k4 => k_asm); (case k5 => k_asm); (case kK => first | exact rfl | assumption); (case kd => ktr_room); (case ku => ktr_units); (case' kR => (intro t9 h9 tk9 F9 N9; (try dsimp only); (try k_fold)))))
local macro_rules | `(tactic| ktn_call $x $c) => `(tactic| ((refine' CT.use $x ?k1 ?k2 ?k3 ?k4 ?k5 ?kK ?kd ?ku ?kR); (case k1 => k_asm); (case k2 => k_asm); (case k3 => k_asm); (case k4 => k_asm); (case k5 => k_asm); (case kK => first | exact rfl | assumption); (case kd => ktr_room); (case ku => ktr_units); (case' kR => (intro D9 u1 u2 u3 u4 k9 h9 tk9 F9 N9 l9; (try k_lt l9); (try dsimp only); (try k_fold)))))
local macro_rules | `(tactic| ktr_call $x $c) => `(tactic| ((refine' CF.use $x ?k1 ?k2 ?k3 ?k4 ?k5 ?kK ?kd ?ku ?kR); (case k1 => k_asm); (case k2 => k_asm); (case k3 => k_asm); (case k4 => k_asm); (case k5 => k_asm); (case kK => first | exact rfl | assumption); (case kd => ktr_room); (case ku => ktr_units); (case' kR => (intro h9 tk9 F9 N9; (try dsimp only); (try k_fold)))))
local macro_rules | `(tactic| cell_enter) => `(tactic| (refine' code_def ?k1 ?k2 ?k3 ?k4 ?k5 ?kA ?kF ?kK ?k6 ?k7 ?k8 ?k9 ?kB ?_ ?c2 ?c3 ?c4 ?c5; (case kA => exact rfl); (case kF => exact rfl); (case kK => first | exact rfl | assumption); (case k1 => k_asm); (case k2 => k_asm); (case k3 => k_asm); (case k4 => k_asm); (case k5 => k_asm); (case k6 => k_is); (case k7 => k_is); (case k8 => ktr_room); (case k9 => first | exact BindsTo.of_eq rfl | exact binds_K (by k_in) rfl (by k_is) rfl rfl rfl); (case c5 => decide); (case kB => exact locs rfl); (case c2 => exact rfl); (case c3 => exact rfl); (case c4 => exact rfl); k_whole; intro g' L' h' FG' F' N' B' X' T'; (try dsimp only); (try k_lift B'); (try k_fold)))
local macro_rules | `(tactic| walk_at "binaryOp LShift int int") => `(tactic| (k_here; first
  | ((with_reducible refine lshift_int_small ?ha ?hb ?hc ?_); (case ha => omega); (case hb => omega); (case hc => decide))
  | ((with_reducible refine lshift_int ?ha ?hb ?_); (case ha => omega); (case hb => omega))))
local macro_rules | `(tactic| walk_at "call builtin:divmod") => `(tactic| (k_here; (with_reducible show wpAny _ _ (call (Value.builtin _) [Value.int _ _, Value.int _ _]) _ _ _); refine divmod_N (by assumption) (by assumption) (by omega) ?_ (Or.inl (PyProof.noPylong_of_log2 (by assumption))); intro _ _ _))
local macro_rules | `(tactic| ked_read) => `(tactic| first | exact read4N (by k_asm) (by k_mem) | exact read4K (by k_in) (by k_is) rfl)
local macro_rules | `(tactic| walk_at "compareOp Eq ref ref") => `(tactic| (k_here; (with_reducible show wpAny _ _ (compareOp CmpOp.Eq (Value.ref _) (Value.ref _)) _ _ _); k_dflt ((refine' eq4 ?hX ?hY ?hu ?_); (case hX => ked_read); (case hY => ked_read); (case hu => ktr_units))))
local macro_rules | `(tactic| ktn_call $x $c) => `(tactic| ((refine' C2.use $x ?k1 ?k2 ?k3 ?k4 ?k5 ?kK ?kd ?ku ?kR); (case k1 => k_asm); (case k2 => k_asm); (case k3 => k_asm); (case k4 => k_asm); (case k5 => k_asm); (case kK => first | exact rfl | assumption); (case kd => ktr_room); (case ku => ktr_units); (case' kR => (intro D9 u1 u2 k9 h9 tk9 F9 N9 l9; (try k_lt l9); (try dsimp only); (try k_fold)))))
local macro_rules | `(tactic| walk_at "binaryOp Pow int int") => `(tactic| (k_here; (with_reducible refine pow2 ?ha ?hb ?_); (case ha => omega); (case hb => omega)))
local macro_rules | `(tactic| walk_at "binaryOp Mod int int") => `(tactic| (k_here; (with_reducible refine mod_gen ?ha ?_); (case ha => first | omega | exact pow2_pos _); intro r9 hr0 hr1; (try dsimp only)))
local macro_rules | `(tactic| walk_at "binaryOp FloorDiv int int") => `(tactic| (k_here; (with_reducible refine div_gen ?ha ?hp ?_); (case ha => first | omega | exact pow2_pos _); (case hp => first | exact PyProof.noPylong_small (by omega) | exact PyProof.noPylong_of_log2 (by decide +kernel)); intro q9 hq0 hq1; (try dsimp only)))
theorem bits_pow2 (k : Nat) : Builtin.Int.intBits ((2 : Int) ^ k) ≤ k + 1 := by
  rw [cast_pow]
  exact bl_le.mpr (Nat.pow_lt_pow_right (by decide) (by omega))
theorem wf_of {M e sg : Int} (h0 : 0 ≤ M) (ho : M % 2 = 1) (hb : M < 2 ^ 90) (hs : 0 ≤ sg) (hs2 : sg < 2) (he : -2000 ≤ e) (he2 : e ≤ 2000) :
    M = (M.toNat : Int) ∧ ((Builtin.Int.intBits M : Nat) : Int) = (bl M.toNat : Nat) ∧ WfN sg M.toNat e := by
  have e1 : M = (M.toNat : Int) := by omega
  refine ⟨e1, congrArg (fun x : Int => ((Builtin.Int.intBits x : Nat) : Int)) e1, .inr ⟨by omega, by omega, bl_le.mpr ?_, he, he2⟩⟩
  omega
theorem pw_even {r : Int} (h0 : 0 ≤ r) (k : Nat) (h : r ≤ k) : ∃ y : Int, (2 : Int) ^ (1 + r).toNat = 2 * y ∧ 1 ≤ y ∧ y ≤ 2 ^ k := by
  refine ⟨2 ^ r.toNat, ?_, ?_, ?_⟩
  · rw [show (1 + r).toNat = r.toNat + 1 by omega, Int.pow_succ, Int.mul_comm]
  · have := pow2_pos r.toNat; omega
  · rw [cast_pow, cast_pow]
    exact Int.ofNat_le.mpr (Nat.pow_le_pow_right (by decide) (by omega))
section
variable {q r r' r'' u e sg : Int}
theorem wf_k1 (hs : 0 ≤ sg) (hs2 : sg < 2) (he : 0 ≤ r'') (he2 : r'' < 2 * 2000 + 1) : (1 : Int) = ((1 : Int).toNat : Int) ∧ ((Builtin.Int.intBits 1 : Nat) : Int) = (bl (1 : Int).toNat : Nat) ∧ WfN sg (1 : Int).toNat (r'' - 2000) :=
  wf_of (by decide) (by decide) (by decide) hs hs2 (by omega) (by omega)
theorem wf_k0 (h2 : 2 * q ≤ r) (h3 : r < 2 * q + 2) (h4 : 0 ≤ r) (h1 : r < 2 ^ (1 + r').toNat) (hr : 0 ≤ r') (hr' : r' < 90) (hs : 0 ≤ sg) (hs2 : sg < 2) (he : 0 ≤ r'') (he2 : r'' < 2 * 2000 + 1) :
    q * 2 + 1 = ((q * 2 + 1).toNat : Int) ∧ ((Builtin.Int.intBits (q * 2 + 1) : Nat) : Int) = (bl (q * 2 + 1).toNat : Nat) ∧ WfN sg (q * 2 + 1).toNat (r'' - 2000) := by
  obtain ⟨y, hy, hy1, hy2⟩ := pw_even hr 89 (by omega)
  exact wf_of (by omega) (by omega) (by omega) hs hs2 (by omega) (by omega)
theorem wf_k2 (hr : 0 ≤ r') (hr' : r' < 90) (hs : 0 ≤ sg) (hs2 : sg < 2) (he : 0 ≤ r'') (he2 : r'' < 2 * 2000 + 1) :
    (2 : Int) ^ (1 + r').toNat - 1 = (((2 : Int) ^ (1 + r').toNat - 1).toNat : Int) ∧ ((Builtin.Int.intBits ((2 : Int) ^ (1 + r').toNat - 1) : Nat) : Int) = (bl ((2 : Int) ^ (1 + r').toNat - 1).toNat : Nat) ∧ WfN sg ((2 : Int) ^ (1 + r').toNat - 1).toNat (r'' - 2000) := by
  obtain ⟨y, hy, hy1, hy2⟩ := pw_even hr 89 (by omega)
  exact wf_of (by omega) (by omega) (by omega) hs hs2 (by omega) (by omega)
theorem wf_k3 (hr : 0 ≤ r') (hr' : r' < 90 - 1) (hs : 0 ≤ sg) (hs2 : sg < 2) (he : 0 ≤ r'') (he2 : r'' < 2 * 2000 + 1) :
    (2 : Int) ^ (1 + r').toNat + 1 = (((2 : Int) ^ (1 + r').toNat + 1).toNat : Int) ∧ ((Builtin.Int.intBits ((2 : Int) ^ (1 + r').toNat + 1) : Nat) : Int) = (bl ((2 : Int) ^ (1 + r').toNat + 1).toNat : Nat) ∧ WfN sg ((2 : Int) ^ (1 + r').toNat + 1).toNat (r'' - 2000) := by
  obtain ⟨y, hy, hy1, hy2⟩ := pw_even hr 88 (by omega)
  exact wf_of (by omega) (by omega) (by omega) hs hs2 (by omega) (by omega)
end
theorem con_mixed (w : World) {l : Addr} {lv : List Value} {ns : List Int} {k : Int} {t : Tok} (h0 : 0 ≤ k) (hk2 : k < 100) (news : List (Addr × Obj)) : CX w 114 3 [.ref l, .int k t] l lv ns news := by
  intro mean mg mb dp un gd cn cs a ccd cl outer A₀ base h₀ L m s Q E B F X N T hk hl hi hf hd hu hret
  k_with_none
  refine wpAny_call ?_
  k_dflt cell_enter
  k_steps
  all_goals (exact hret _ _ _ _ (by assumption) (by assumption))
theorem con_worth (w : World) {S : Addr} {sg e sb : Int} {mn : Nat} {k1 : Nat} {s1 s2 s3 s4 : Tok} (hw : WfN sg mn e) (news : List (Addr × Obj)) (hS : (S, tup4 sg mn e sb s1 s2 s3 s4 k1) ∈ news) :
    C2 w 128 3 [.ref S] news ((if sg = 1 then -(mn : Int) else mn) * 2 ^ e.toNat) (2 ^ (-e).toNat) := by
  intro mean mg mb dp un gd cn cs a ccd cl outer A₀ base h₀ L m s Q E B F X N T hk hd hu hret
  have he : -2000 ≤ e ∧ e ≤ 2000 ∧ bl mn ≤ 90 := by
    rcases hw with ⟨rfl, rfl, rfl⟩ | ⟨_, _, h1, h2, h3⟩
    · exact ⟨by decide, by decide, by decide⟩
    · exact ⟨h2, h3, h1⟩
  obtain ⟨he1, he2, hb⟩ := he
  have hb1 := bits_pow2 e.toNat
  have hb2 := (bits_abs (mn : Int)).2
  rw [Int.natAbs_natCast] at hb2
  have hm1 : IntMulOk (-(mn : Int)) (2 ^ e.toNat) := mulOk (by omega)
  have hm2 : IntMulOk (mn : Int) (2 ^ e.toNat) := mulOk (by have h1 : Builtin.Int.intBits (mn : Int) ≤ 90 := hb; omega)
  k_with_none
  refine wpAny_call ?_
  k_dflt cell_enter
  k_steps
  all_goals (refine end2 hret ?_ (by assumption) (by assumption) (List.Mem.head _) (fun _ h => List.Mem.tail _ h) (by assumption))
  all_goals first
    | (rw [if_pos (by assumption), show (-e).toNat = 0 by omega]; exact ⟨rfl, rfl⟩)
    | (rw [if_neg (by assumption), show (-e).toNat = 0 by omega]; exact ⟨rfl, rfl⟩)
    | (rw [if_pos (by assumption), show e.toNat = 0 by omega, Int.pow_zero, Int.mul_one]; exact ⟨rfl, rfl⟩)
    | (rw [if_neg (by assumption), show e.toNat = 0 by omega, Int.pow_zero, Int.mul_one]; exact ⟨rfl, rfl⟩)
theorem con_raw (w : World) {x : Int} {t1 t2 t3 : Tok} (news : List (Addr × Obj)) : CW w 121 3 [.int x t1, .int 90 t2, .int 2000 t3] news := by
  intro mean mg mb dp un gd cn cs a ccd cl outer A₀ base h₀ L m s Q E B F X N T hk hd hu hret
  k_with_none
  refine wpAny_call ?_
  k_dflt cell_enter
  k_steps
  all_goals (refine endWx hret ?_ (by assumption) (by assumption) (List.Mem.head _) (fun _ h => List.Mem.tail _ (List.Mem.tail _ h)) (ktn_ltOf (And.right (by assumption))))
  all_goals first
    | exact ⟨rfl, by decide, .inl ⟨rfl, rfl, rfl⟩⟩
    | exact wf_k1 (by assumption) (by assumption) (by assumption) (by assumption)
    | exact wf_k2 (by assumption) (by assumption) (by assumption) (by assumption) (by assumption) (by assumption)
    | exact wf_k3 (by assumption) (by assumption) (by assumption) (by assumption) (by assumption) (by assumption)
    | exact wf_k0 (by assumption) (by assumption) (by assumption) (by assumption) (by assumption) (by assumption) (by assumption) (by assumption) (by assumption) (by assumption)
end Mine
end
section
open PySem PySem.W PySem.Spec PySem.Calls PyProof.Rows
set_option maxHeartbeats 1000000
namespace Mine
local macro_rules | `(tactic| walk_at "execs cons") => `(tactic| k_extra "execs cons")
local macro_rules | `(tactic| walk_at "call ref") => `(tactic| k_extra "call ref")
local macro_rules | `(tactic| walk_at "isTrue Subscript") => `(tactic| k_extra "isTrue Subscript")
local macro_rules | `(tactic| walk_at "eval Call") => `(tactic| (k_here; (with_reducible show wpAny _ _ (eval (Expr.Call (Expr.Name _ _) _ [] _) _) _ _ _); k_dflt (refine Call_ ?_)))
local macro_rules | `(tactic| walk_at "ite") => `(tactic| (k_here; (try dsimp only); first
  | ((with_reducible show (if (_ != (0 : Int)) = true then _ else _)); (refine ite_ne0 (fun hC => ?_) (fun hC => ?_)) <;> first | (exfalso; omega) | skip)
  | ((with_reducible show (if (decide _) = true then _ else _)); (refine ite_dec (fun hC => ?_) (fun hC => ?_)) <;> first | (exfalso; omega) | skip)
  | ((with_reducible show (if ((_ : Int) == _) = true then _ else _)); (refine ite_beq (fun hC => ?_) (fun hC => ?_)) <;> first | (exfalso; omega) | skip)))
local macro_rules | `(tactic| walk_at "binaryOp RShift int int") => `(tactic| (k_here; (with_reducible refine rshift_int ?hn ?_); (case hn => omega)))
local macro_rules | `(tactic| walk_at "inplaceOp RShift int int") => `(tactic| (k_here; (with_reducible refine irshift_int ?hn ?_); (case hn => omega)))
local macro_rules | `(tactic| ktr_call $x $c) => `(tactic| ((refine' CI.use $x ?k1 ?k2 ?k3 ?k4 ?k5 ?kK ?kd ?ku ?kR); (case k1 => k_asm); (case k2 => k_asm); (case k3 => k_asm); (case k4 => k_asm); (case k5 => k_asm); (case kK => first | exact rfl | assumption); (case kd => ktr_room); (case ku => ktr_units); (case' kR => (intro t9 h9 tk9 F9 N9; (try dsimp only); (try k_fold)))))
local macro_rules | `(tactic| ktn_call $x $c) => `(tactic| ((refine' CT.use $x ?k1 ?k2 ?k3 ?k4 ?k5 ?kK ?kd ?ku ?kR); (case k1 => k_asm); (case k2 => k_asm); (case k3 => k_asm); (case k4 => k_asm); (case k5 => k_asm); (case kK => first | exact rfl | assumption); (case kd => ktr_room); (case ku => ktr_units); (case' kR => (intro D9 u1 u2 u3 u4 k9 h9 tk9 F9 N9 l9; (try k_lt l9); (try dsimp only); (try k_fold)))))
local macro_rules | `(tactic| ktr_call $x $c) => `(tactic| ((refine' CF.use $x ?k1 ?k2 ?k3 ?k4 ?k5 ?kK ?kd ?ku ?kR); (case k1 => k_asm); (case k2 => k_asm); (case k3 => k_asm); (case k4 => k_asm); (case k5 => k_asm); (case kK => first | exact rfl | assumption); (case kd => ktr_room); (case ku => ktr_units); (case' kR => (intro h9 tk9 F9 N9; (try dsimp only); (try k_fold)))))
local macro_rules | `(tactic| cell_enter) => `(tactic| (refine' code_def ?k1 ?k2 ?k3 ?k4 ?k5 ?kA ?kF ?kK ?k6 ?k7 ?k8 ?k9 ?kB ?_ ?c2 ?c3 ?c4 ?c5; (case kA => exact rfl); (case kF => exact rfl); (case kK => first | exact rfl | assumption); (case k1 => k_asm); (case k2 => k_asm); (case k3 => k_asm); (case k4 => k_asm); (case k5 => k_asm); (case k6 => k_is); (case k7 => k_is); (case k8 => ktr_room); (case k9 => first | exact BindsTo.of_eq rfl | exact binds_K (by k_in) rfl (by k_is) rfl rfl rfl); (case c5 => decide); (case kB => exact locs rfl); (case c2 => exact rfl); (case c3 => exact rfl); (case c4 => exact rfl); k_whole; intro g' L' h' FG' F' N' B' X' T'; (try dsimp only); (try k_lift B'); (try k_fold)))
local macro_rules | `(tactic| walk_at "binaryOp LShift int int") => `(tactic| (k_here; first
  | ((with_reducible refine lshift_int_small ?ha ?hb ?hc ?_); (case ha => omega); (case hb => omega); (case hc => decide))
  | ((with_reducible refine lshift_int ?ha ?hb ?_); (case ha => omega); (case hb => omega))))
local macro_rules | `(tactic| walk_at "call builtin:divmod") => `(tactic| (k_here; (with_reducible show wpAny _ _ (call (Value.builtin _) [Value.int _ _, Value.int _ _]) _ _ _); refine divmod_N (by assumption) (by assumption) (by omega) ?_ (Or.inl (PyProof.noPylong_of_log2 (by assumption))); intro _ _ _))
local macro_rules | `(tactic| ked_read) => `(tactic| first | exact read4N (by k_asm) (by k_mem) | exact read4K (by k_in) (by k_is) rfl)
local macro_rules | `(tactic| walk_at "compareOp Eq ref ref") => `(tactic| (k_here; (with_reducible show wpAny _ _ (compareOp CmpOp.Eq (Value.ref _) (Value.ref _)) _ _ _); k_dflt ((refine' eq4 ?hX ?hY ?hu ?_); (case hX => ked_read); (case hY => ked_read); (case hu => ktr_units))))
local macro_rules | `(tactic| ktn_call $x $c) => `(tactic| ((refine' C2.use $x ?k1 ?k2 ?k3 ?k4 ?k5 ?kK ?kd ?ku ?kR); (case k1 => k_asm); (case k2 => k_asm); (case k3 => k_asm); (case k4 => k_asm); (case k5 => k_asm); (case kK => first | exact rfl | assumption); (case kd => ktr_room); (case ku => ktr_units); (case' kR => (intro D9 u1 u2 k9 h9 tk9 F9 N9 l9; (try k_lt l9); (try dsimp only); (try k_fold)))))
local macro_rules | `(tactic| walk_at "binaryOp Pow int int") => `(tactic| (k_here; (with_reducible refine pow2 ?ha ?hb ?_); (case ha => omega); (case hb => omega)))
local macro_rules | `(tactic| walk_at "exec While Compare cons nil") => `(tactic| (k_here; k_extra "exec While Compare cons nil"))
def aw6 (md : Md) (sg : Int) : Bool := match md with
  | .u => true
  | .c => sg == 0
  | .f => sg == 1
  | _ => false
def aw7 (md : Md) (sg w r l : Int) : Bool := match md with
  | .n => decide (l < 2 * r) || (decide (2 * r = l) && decide (w % 2 = 1))
  | md => aw6 md sg
structure RS where
  e : Int
  w : Int
  r : Int
  l : Int
  te : Tok
  tw : Tok
  tr : Tok
  tl : Tok
def R1 (N D p : Nat) (c : RS) : Prop := (c.e = E0 N D p - 1 ∧ c.w = 2 ^ p) ∨
  ((c.e = E0 N D p ∨ (c.e = E0 N D p + 1 ∧ 2 ^ p ≤ wh N D (E0 N D p))) ∧ c.w = (wh N D c.e : Nat) ∧ c.r = (up N (-c.e) % up D c.e : Nat) ∧ c.l = (up D c.e : Nat))
theorem R1_facts {N D p : Nat} {c : RS} (hN : 0 < N) (hD : 0 < D) (hp : 0 < p) (hbN : bl N ≤ 6000) (hbD : bl D ≤ 6000) (hp2 : p ≤ 1000) (h : R1 N D p c) :
    -8000 ≤ c.e ∧ c.e ≤ 7000 ∧ IntMulOk (D : Int) (2 ^ (c.e + 1).toNat) ∧ IntMulOk (N : Int) (2 ^ (-(c.e + 1)).toNat) ∧ ((D : Int) * 2 ^ (c.e + 1).toNat).natAbs.log2 < 9000 ∧ (D : Int) * 2 ^ (c.e + 1).toNat ≠ 0 := by
  have he : c.e = E0 N D p - 1 ∨ c.e = E0 N D p ∨ c.e = E0 N D p + 1 := by
    rcases h with h | ⟨h | h, _⟩
    · exact .inl h.1
    · exact .inr (.inl h)
    · exact .inr (.inr h.1)
  have hn := (bl_ge hN).2
  have hd := (bl_ge hD).2
  unfold E0 at he
  have b1 := bits_pow2 (c.e + 1).toNat
  have b2 := bits_pow2 (-(c.e + 1)).toNat
  have n1 : Builtin.Int.intBits (N : Int) ≤ 6000 := hbN
  have d1 : Builtin.Int.intBits (D : Int) ≤ 6000 := hbD
  have ec : (D : Int) * 2 ^ (c.e + 1).toNat = ((D * 2 ^ (c.e + 1).toNat : Nat) : Int) := by rw [cast_pow, ← Int.natCast_mul]
  refine ⟨by omega, by omega, mulOk (by omega), mulOk (by omega), ?_, ?_⟩
  · rw [ec]
    exact log_small (by rw [bl_mul _ hD]; omega)
  · rw [ec]
    have := up_pos hD (c.e + 1)
    unfold up at this
    omega
theorem R1_turn {N D p : Nat} {c : RS} {W R M : Int} {t1 t2 t3 t4 : Tok} (hN : 0 < N) (hD : 0 < D) (hp : 0 < p) (h : R1 N D p c) (hC : (2 : Int) ^ (p : Int).toNat ≤ c.w) (hW : W = (wh N D (c.e + 1) : Nat)) (hR : R = (up N (-(c.e + 1)) % up D (c.e + 1) : Nat)) (hM : M = (up D (c.e + 1) : Nat)) :
    R1 N D p ⟨c.e + 1, W, R, M, t1, t2, t3, t4⟩ ∧ (E0 N D p + 1 - (c.e + 1)).toNat < (E0 N D p + 1 - c.e).toNat := by
  rw [show (p : Int).toNat = p by omega] at hC
  rcases h with ⟨h, _⟩ | ⟨h | ⟨h, h'⟩, hw, _, _⟩
  · refine ⟨.inr ⟨.inl (by dsimp only; omega), hW, hR, hM⟩, by omega⟩
  · refine ⟨.inr ⟨.inr ⟨by dsimp only; omega, ?_⟩, hW, hR, hM⟩, by omega⟩
    rw [hw, h, cast_pow] at hC
    exact Int.ofNat_le.mp hC
  · exfalso
    obtain ⟨w1, w2⟩ := wh0 hN hD hp
    rw [hw, h, wh_succ N D hD, cast_pow] at hC
    have hC' := Int.ofNat_le.mp hC
    rw [Nat.pow_succ] at w2
    omega
theorem R1_end {N D p : Nat} {c : RS} (h : R1 N D p c) (hC : ¬ (2 : Int) ^ (p : Int).toNat ≤ c.w) : c.e = EE N D p ∧ c.w = (up N (-(EE N D p)) / up D (EE N D p) : Nat) ∧ c.r = (up N (-(EE N D p)) % up D (EE N D p) : Nat) ∧ c.l = (up D (EE N D p) : Nat) := by
  rw [show (p : Int).toNat = p by omega] at hC
  rcases h with ⟨_, h⟩ | ⟨h, hw, hr, hl⟩
  · omega
  · have e : c.e = EE N D p := by
      unfold EE
      rcases h with h | ⟨h, h'⟩
      · rw [if_pos]; exact h
        rw [hw, h, cast_pow] at hC
        exact Nat.lt_of_not_le fun x => hC (Int.ofNat_le.mpr x)
      · rw [if_neg (by omega)]; exact h
    rw [e] at hw hr hl
    exact ⟨e, hw, hr, hl⟩
theorem RM_aw {md : Md} {sg : Int} {A B : Nat} (hB : 0 < B) : ((RM md sg A B : Nat) : Int) = if aw7 md sg (A / B : Nat) (A % B : Nat) B = true ∧ (0 : Int) < (A % B : Nat) then ((A / B : Nat) : Int) + 1 else ((A / B : Nat) : Int) := by
  generalize hq : A / B = q
  generalize hr : A % B = r
  cases md <;> simp only [RM, aw7, aw6, hq, hr] <;> (repeat' split) <;> simp_all <;> omega
theorem R1_start {N D p : Nat} {e w r l : Int} {t1 t2 t3 t4 : Tok} (he : e = (Builtin.Int.intBits (N : Int) : Int) - Builtin.Int.intBits (D : Int) - p - 1) (hw : w = 2 ^ (p : Int).toNat) : R1 N D p ⟨e, w, r, l, t1, t2, t3, t4⟩ := by
  refine Or.inl ⟨?_, ?_⟩
  · dsimp only; rw [he]
  · dsimp only; rw [hw, show (p : Int).toNat = p by omega]
theorem LR_one {md : Md} {sg w r l e : Int} {N D p : Nat} {b : Bool} (hD : 0 < D) (h : e = EE N D p ∧ w = (up N (-(EE N D p)) / up D (EE N D p) : Nat) ∧ r = (up N (-(EE N D p)) % up D (EE N D p) : Nat) ∧ l = (up D (EE N D p) : Nat)) (h7 : b = aw7 md sg w r l) :
    (((LR md sg N D p).1 : Nat) : Int) = (if b = true ∧ 0 < r then w + 1 else w) ∧ e = (LR md sg N D p).2 := by
  obtain ⟨he, hw, hr, hl⟩ := h
  refine ⟨?_, he⟩
  rw [h7, hw, hr, hl]
  exact RM_aw (up_pos hD _)
def R2 (M : Nat) (E w e : Int) : Prop := 0 < w ∧ cm w.toNat = cm M ∧ e + v2 w.toNat = E + v2 M
theorem R2_turn {M : Nat} {E w e : Int} (h : R2 M E w e) (hC : w.fmod 2 = 0) : R2 M E (w.fdiv 2) (e + 1) ∧ (w.fdiv 2).toNat < w.toNat := by
  obtain ⟨h0, h1, h2⟩ := h
  obtain ⟨a, rfl⟩ : ∃ a : Nat, w = a := ⟨w.toNat, by omega⟩
  rw [Int.fmod_eq_emod_of_nonneg _ (by decide)] at hC
  rw [Int.fdiv_eq_ediv_of_nonneg _ (by decide)]
  have ea : a = a / 2 * 2 := by omega
  have e1 : ((a : Int) / 2).toNat = a / 2 := by omega
  have c1 : cm a = cm (a / 2) := by
    have := cm_pow (m := a / 2) (by omega) 1
    rw [Nat.pow_one, ← ea] at this
    exact this
  have c2 : v2 a = v2 (a / 2) + 1 := by
    have := v2_two (m := a / 2) (by omega)
    rw [← ea] at this
    exact this
  rw [Int.toNat_natCast] at h1 h2
  refine ⟨⟨by omega, by rw [e1, ← c1]; exact h1, by rw [e1]; omega⟩, by omega⟩
theorem R2_end {M : Nat} {E w e : Int} (h : R2 M E w e) (hC : w.fmod 2 ≠ 0) : w = (cm M : Nat) ∧ e = E + v2 M ∧ ((Builtin.Int.intBits w : Nat) : Int) = (bl (cm M) : Nat) := by
  obtain ⟨h0, h1, h2⟩ := h
  obtain ⟨a, rfl⟩ : ∃ a : Nat, w = a := ⟨w.toNat, by omega⟩
  rw [Int.fmod_eq_emod_of_nonneg _ (by decide)] at hC
  rw [Int.toNat_natCast] at h1 h2
  have z : v2 a = 0 := v2_odd (by omega)
  have q : cm a = a := by rw [cm, z, Nat.pow_zero, Nat.div_one]
  rw [z] at h2
  rw [← h1, q]
  exact ⟨rfl, by omega, rfl⟩
theorem LR_pos {md : Md} {sg : Int} {N D p : Nat} (hN : 0 < N) (hD : 0 < D) (hp : 0 < p) : 0 < (LR md sg N D p).1 :=
  RM_pos (Nat.lt_of_lt_of_le (Nat.two_pow_pos _) (EE_win hN hD hp).1)
theorem aw6_of (md : Md) (sg : Int) : aw6 md sg = (if md.str == Str.ofString "u" then true else if md.str == Str.ofString "c" then sg == 0 else if md.str == Str.ofString "f" then sg == 1 else false) := by
  cases md <;> rfl
theorem aw7_of {md : Md} {sg w r l : Int} (h : (md.str == Str.ofString "n") = false) : aw7 md sg w r l = aw6 md sg := by
  cases md <;> first | rfl | exact absurd h (by decide)
theorem R2_start {M : Nat} {E w e : Int} (h : 0 < M) (hw : w = M) (he : e = E) : R2 M E w e := by
  subst hw he
  exact ⟨by omega, by rw [Int.toNat_natCast], by rw [Int.toNat_natCast]⟩
section
variable {N D : Nat} {K : Int}
theorem nat_fdiv (a b : Nat) : ((a : Int).fdiv b = ((a / b : Nat) : Int)) ∧ ((a : Int).fmod b = ((a % b : Nat) : Int)) := by
  rw [Int.fdiv_eq_ediv_of_nonneg _ (Int.natCast_nonneg _), Int.fmod_eq_emod_of_nonneg _ (Int.natCast_nonneg _)]
  exact ⟨(Int.natCast_ediv ..).symm, (Int.natCast_emod ..).symm⟩
theorem up_cast (x : Nat) (e : Int) : (x : Int) * 2 ^ e.toNat = ((up x e : Nat) : Int) := by rw [cast_pow, ← Int.natCast_mul]
theorem up_neg {x : Nat} {e : Int} (h : ¬ 0 < e) : up x e = x := by
  unfold up; rw [show e.toNat = 0 by omega, Nat.pow_zero, Nat.mul_one]
theorem rv_pos (h : 0 < K) : (N : Int).fdiv ((D : Int) * 2 ^ K.toNat) = (wh N D K : Nat) ∧ (N : Int).fmod ((D : Int) * 2 ^ K.toNat) = (up N (-K) % up D K : Nat) ∧ (D : Int) * 2 ^ K.toNat = (up D K : Nat) := by
  rw [up_cast, show wh N D K = N / up D K by unfold wh; rw [up_neg (x := N) (by omega)], up_neg (x := N) (e := -K) (by omega)]
  exact ⟨(nat_fdiv _ _).1, (nat_fdiv _ _).2, rfl⟩
theorem rv_neg (h : ¬ 0 < K) : ((N : Int) * 2 ^ (-K).toNat).fdiv (D : Int) = (wh N D K : Nat) ∧ ((N : Int) * 2 ^ (-K).toNat).fmod (D : Int) = (up N (-K) % up D K : Nat) ∧ (D : Int) = (up D K : Nat) := by
  rw [up_cast, show wh N D K = up N (-K) / D by unfold wh; rw [up_neg (x := D) h], up_neg (x := D) h]
  exact ⟨(nat_fdiv _ _).1, (nat_fdiv _ _).2, rfl⟩
theorem rv_nil (h : ¬ 0 < K) (h' : ¬ K < 0) : (N : Int).fdiv (D : Int) = (wh N D K : Nat) ∧ (N : Int).fmod (D : Int) = (up N (-K) % up D K : Nat) ∧ (D : Int) = (up D K : Nat) := by
  rw [show wh N D K = N / D by unfold wh; rw [up_neg (x := D) h, up_neg (x := N) (by omega)], up_neg (x := D) h, up_neg (x := N) (by omega)]
  exact ⟨(nat_fdiv _ _).1, (nat_fdiv _ _).2, rfl⟩
end
section
variable {md : Md} {sg w r l : Int}
theorem md_u (h : (md.str == Str.ofString "u") = true) : md = .u := by cases md <;> first | rfl | exact absurd h (by decide)
theorem md_c (h : (md.str == Str.ofString "c") = true) : md = .c := by cases md <;> first | rfl | exact absurd h (by decide)
theorem md_f (h : (md.str == Str.ofString "f") = true) : md = .f := by cases md <;> first | rfl | exact absurd h (by decide)
theorem p6u (h : (md.str == Str.ofString "u") = true) : (md.str == Str.ofString "u") = aw6 md sg := by
  obtain rfl := md_u h; rw [h]; rfl
theorem p6c (h : (md.str == Str.ofString "c") = true) : (sg == 0) = aw6 md sg := by obtain rfl := md_c h; rfl
theorem p6cf (h : (md.str == Str.ofString "c") = true) (h' : (md.str == Str.ofString "f") = true) : (sg == 1) = aw6 md sg := by
  obtain rfl := md_c h; exact absurd h' (by decide)
theorem p6cn (h : (md.str == Str.ofString "c") = true) (hs : sg ≠ 0) (h' : (md.str == Str.ofString "f") = false) : (md.str == Str.ofString "f") = aw6 md sg := by
  obtain rfl := md_c h; rw [h']; simp [aw6, hs]
theorem p6f (h : (md.str == Str.ofString "f") = true) : (sg == 1) = aw6 md sg := by obtain rfl := md_f h; rfl
theorem p6n (h : (md.str == Str.ofString "u") = false) (h2 : (md.str == Str.ofString "c") = false) (h3 : (md.str == Str.ofString "f") = false) : (md.str == Str.ofString "f") = aw6 md sg := by
  rw [h3]
  cases md <;> first | rfl | exact absurd h (by decide) | exact absurd h2 (by decide) | exact absurd h3 (by decide)
theorem p7a (a : (md.str == Str.ofString "n") = true) (h : l < 2 * r) : decide (l < 2 * r) = aw7 md sg w r l := by
  obtain rfl := md_n a; simp [aw7, h]
theorem p7b (a : (md.str == Str.ofString "n") = true) (h : ¬ l < 2 * r) (h2 : 2 * r = l) : (w.fmod 2 == 1) = aw7 md sg w r l := by
  obtain rfl := md_n a
  rw [Int.fmod_eq_emod_of_nonneg _ (by decide)]
  simp only [aw7, h, h2, decide_true, decide_false, Bool.false_or, Bool.true_and]
  by_cases c : w % 2 = 1 <;> simp [c]
theorem p7c (a : (md.str == Str.ofString "n") = true) (h : ¬ l < 2 * r) (h2 : 2 * r ≠ l) : (2 * r == l) = aw7 md sg w r l := by
  obtain rfl := md_n a; simp [aw7, h, h2]
theorem p7n {b : Bool} (a : (md.str == Str.ofString "n") = false) (h : b = aw6 md sg) : b = aw7 md sg w r l := by rw [aw7_of a]; exact h
theorem p8 {e : Int} {b : Bool} {M : Nat} {E : Int} (q : ((M : Nat) : Int) = (if b = true ∧ 0 < r then w + 1 else w) ∧ e = E) :
    (b = true → 0 < r → w + 1 = (M : Int) ∧ e = E) ∧ (b = true → ¬ 0 < r → w = (M : Int) ∧ e = E) ∧ (b = false → w = (M : Int) ∧ e = E) := by
  obtain ⟨q1, q2⟩ := q
  refine ⟨fun h1 h2 => ⟨?_, q2⟩, fun h1 h2 => ⟨?_, q2⟩, fun h1 => ⟨?_, q2⟩⟩
  · rw [if_pos ⟨h1, h2⟩] at q1; exact q1.symm
  · rw [if_neg (fun x => h2 x.2)] at q1; exact q1.symm
  · rw [if_neg (fun x => by rw [h1] at x; exact Bool.false_ne_true x.1)] at q1; exact q1.symm
end
end Mine
end
section
open PySem PySem.W PySem.Spec PySem.Calls PyProof.Rows
set_option maxHeartbeats 1000000
namespace Mine
local macro_rules | `(tactic| walk_at "execs cons") => `(tactic| k_extra "execs cons")
local macro_rules | `(tactic| walk_at "call ref") => `(tactic| k_extra "call ref")
local macro_rules | `(tactic| walk_at "isTrue Subscript") => `(tactic| k_extra "isTrue Subscript")
local macro_rules | `(tactic| walk_at "eval Call") => `(tactic| (k_here; (with_reducible show wpAny _ _ (eval (Expr.Call (Expr.Name _ _) _ [] _) _) _ _ _); k_dflt (refine Call_ ?_)))
local macro_rules | `(tactic| walk_at "ite") => `(tactic| (k_here; (try dsimp only); first
  | ((with_reducible show (if (_ != (0 : Int)) = true then _ else _)); (refine ite_ne0 (fun hC => ?_) (fun hC => ?_)) <;> first | (exfalso; omega) | skip)
  | ((with_reducible show (if (decide _) = true then _ else _)); (refine ite_dec (fun hC => ?_) (fun hC => ?_)) <;> first | (exfalso; omega) | skip)
  | ((with_reducible show (if ((_ : Int) == _) = true then _ else _)); (refine ite_beq (fun hC => ?_) (fun hC => ?_)) <;> first | (exfalso; omega) | skip)))
local macro_rules | `(tactic| walk_at "binaryOp RShift int int") => `(tactic| (k_here; (with_reducible refine rshift_int ?hn ?_); (case hn => omega)))
local macro_rules | `(tactic| walk_at "inplaceOp RShift int int") => `(tactic| (k_here; (with_reducible refine irshift_int ?hn ?_); (case hn => omega)))
local macro_rules | `(tactic| ktr_call $x $c) => `(tactic| ((refine' CI.use $x ?k1 ?k2 ?k3 ?k4 ?k5 ?kK ?kd ?ku ?kR); (case k1 => k_asm); (case k2 => k_asm); (case k3 => k_asm); (case k4 => k_asm); (case k5 => k_asm); (case kK => first | exact rfl | assumption); (case kd => ktr_room); (case ku => ktr_units); (case' kR => (intro t9 h9 tk9 F9 N9; (try dsimp only); (try k_fold)))))
local macro_rules | `(tactic| ktn_call $x $c) => `(tactic| ((refine' CT.use $x ?k1 ?k2 ?k3 ?k4 ?k5 ?kK ?kd ?ku ?kR); (case k1 => k_asm); (case k2 => k_asm); (case k3 => k_asm); (case k4 => k_asm); (case k5 => k_asm); (case kK => first | exact rfl | assumption); (case kd => ktr_room); (case ku => ktr_units); (case' kR => (intro D9 u1 u2 u3 u4 k9 h9 tk9 F9 N9 l9; (try k_lt l9); (try dsimp only); (try k_fold)))))
local macro_rules | `(tactic| ktr_call $x $c) => `(tactic| ((refine' CF.use $x ?k1 ?k2 ?k3 ?k4 ?k5 ?kK ?kd ?ku ?kR); (case k1 => k_asm); (case k2 => k_asm); (case k3 => k_asm); (case k4 => k_asm); (case k5 => k_asm); (case kK => first | exact rfl | assumption); (case kd => ktr_room); (case ku => ktr_units); (case' kR => (intro h9 tk9 F9 N9; (try dsimp only); (try k_fold)))))
local macro_rules | `(tactic| cell_enter) => `(tactic| (refine' code_def ?k1 ?k2 ?k3 ?k4 ?k5 ?kA ?kF ?kK ?k6 ?k7 ?k8 ?k9 ?kB ?_ ?c2 ?c3 ?c4 ?c5; (case kA => exact rfl); (case kF => exact rfl); (case kK => first | exact rfl | assumption); (case k1 => k_asm); (case k2 => k_asm); (case k3 => k_asm); (case k4 => k_asm); (case k5 => k_asm); (case k6 => k_is); (case k7 => k_is); (case k8 => ktr_room); (case k9 => first | exact BindsTo.of_eq rfl | exact binds_K (by k_in) rfl (by k_is) rfl rfl rfl); (case c5 => decide); (case kB => exact locs rfl); (case c2 => exact rfl); (case c3 => exact rfl); (case c4 => exact rfl); k_whole; intro g' L' h' FG' F' N' B' X' T'; (try dsimp only); (try k_lift B'); (try k_fold)))
local macro_rules | `(tactic| walk_at "binaryOp LShift int int") => `(tactic| (k_here; first
  | ((with_reducible refine lshift_int_small ?ha ?hb ?hc ?_); (case ha => omega); (case hb => omega); (case hc => decide))
  | ((with_reducible refine lshift_int ?ha ?hb ?_); (case ha => omega); (case hb => omega))))
local macro_rules | `(tactic| walk_at "call builtin:divmod") => `(tactic| (k_here; (with_reducible show wpAny _ _ (call (Value.builtin _) [Value.int _ _, Value.int _ _]) _ _ _); refine divmod_N (by assumption) (by assumption) (by omega) ?_ (Or.inl (PyProof.noPylong_of_log2 (by assumption))); intro _ _ _))
local macro_rules | `(tactic| ked_read) => `(tactic| first | exact read4N (by k_asm) (by k_mem) | exact read4K (by k_in) (by k_is) rfl)
local macro_rules | `(tactic| walk_at "compareOp Eq ref ref") => `(tactic| (k_here; (with_reducible show wpAny _ _ (compareOp CmpOp.Eq (Value.ref _) (Value.ref _)) _ _ _); k_dflt ((refine' eq4 ?hX ?hY ?hu ?_); (case hX => ked_read); (case hY => ked_read); (case hu => ktr_units))))
local macro_rules | `(tactic| ktn_call $x $c) => `(tactic| ((refine' C2.use $x ?k1 ?k2 ?k3 ?k4 ?k5 ?kK ?kd ?ku ?kR); (case k1 => k_asm); (case k2 => k_asm); (case k3 => k_asm); (case k4 => k_asm); (case k5 => k_asm); (case kK => first | exact rfl | assumption); (case kd => ktr_room); (case ku => ktr_units); (case' kR => (intro D9 u1 u2 k9 h9 tk9 F9 N9 l9; (try k_lt l9); (try dsimp only); (try k_fold)))))
local macro_rules | `(tactic| walk_at "binaryOp Pow int int") => `(tactic| (k_here; (with_reducible refine pow2 ?ha ?hb ?_); (case ha => omega); (case hb => omega)))
local macro_rules | `(tactic| walk_at "exec While Compare cons nil") => `(tactic| (k_here; k_extra "exec While Compare cons nil"))
theorem con_rounded (w : World) {above below prec : Int} {N D p : Nat} {t1 t2 t3 t4 : Tok} (md : Md) (ha : above ≠ 0) (eN : above.natAbs = N) (eD : below = D) (hD : 0 < D) (ep : prec = p) (hp : 0 < p) (hp2 : p ≤ 1000) (hbN : bl N ≤ 6000) (hbD : bl D ≤ 6000) (news : List (Addr × Obj)) :
    CT w 135 4 [.int above t1, .int below t2, .int prec t3, .str md.str t4] news (if above < 0 then 1 else 0) (can (LR md (if above < 0 then 1 else 0) N D p)).1 (can (LR md (if above < 0 then 1 else 0) N D p)).2 (bl (can (LR md (if above < 0 then 1 else 0) N D p)).1) := by
  have hx : ∃ sg : Int, (sg = 0 ∨ sg = 1) ∧ (if above < 0 then (1 : Int) else 0) = sg ∧ (above < 0 → 1 = sg) ∧ (¬ above < 0 → 0 = sg) := by
    by_cases hn : above < 0
    · exact ⟨1, .inr rfl, by rw [if_pos hn], fun _ => rfl, fun h => absurd hn h⟩
    · exact ⟨0, .inl rfl, by rw [if_neg hn], fun h => absurd h hn, fun _ => rfl⟩
  obtain ⟨sg, hsg, ex, ex1, ex2⟩ := hx
  rw [ex]
  subst eD ep
  have hN : 0 < N := by omega
  have hl2 : (D : Int).natAbs.log2 < 9000 := log_small (by omega)
  intro mean mg mb dp un gd cn cs a ccd cl outer A₀ base h₀ L m s Q E B F X Ns T hk hd hu hret
  k_with_none
  k_with "execs cons" => (
    (try dsimp only)
    (with_reducible show wpAny _ _ (execs (Stmt.Assign [Expr.Tuple (Expr.Name (PySem.Str.ofString "sign") _ :: _) _ _] _ _ :: _) _) _ _ _)
    refine' execs_cut (σ := Tok × Tok) (fun _ => news) (fun c => [(PySem.Str.ofString "sign", .int sg c.1), (PySem.Str.ofString "size", .int N c.2), (PySem.Str.ofString "below", .int D t2), (PySem.Str.ofString "prec", .int p t3), (PySem.Str.ofString "rnd", .str md.str t4)])
      (fun c => True) ?aF ?a1 ?a2
    (case aF => k_asm)
    (case' a1 => try k_fold)
    case' a2 =>
      intro c1 m9 h9 tk9 P9 F9 N9
      try k_fold)
  k_with "exec While Compare cons nil" => (
    (with_reducible show wpAny _ _ (exec (Stmt.While (Expr.Compare (Expr.Name (PySem.Str.ofString "whole") _) _ _ _) _ _ _) _) _ _ _)
    refine' while_cut (σ := RS) (fun _ => news) (fun c => [(PySem.Str.ofString "exp", .int c.e c.te), (PySem.Str.ofString "whole", .int c.w c.tw), (PySem.Str.ofString "rest", .int c.r c.tr), (PySem.Str.ofString "low", .int c.l c.tl), (PySem.Str.ofString "sign", .int sg c1.1), (PySem.Str.ofString "size", .int N c1.2), (PySem.Str.ofString "below", .int D t2), (PySem.Str.ofString "prec", .int p t3), (PySem.Str.ofString "rnd", .str md.str t4)])
      (R1 N D p) (fun c => (E0 N D p + 1 - c.e).toNat) ⟨_, _, _, _, _, _, _, _⟩ ?bF ?bN ?bk ?bp ?bt ?bE
    (case bF => k_asm)
    (case bN => exact fun p hp => (by assumption : News _ _ _ _) p (by first | exact hp | exact List.Mem.tail _ hp | exact List.Mem.tail _ (List.Mem.tail _ hp)))
    (case bk => (repeat (refine List.forall_mem_cons.mpr ⟨by exact rfl, ?_⟩)); exact fun _ h => nomatch h)
    (case bp => exact R1_start rfl rfl)
    (case bE => passes_own)
    case' bt =>
      intro c9 m9 h9 tk9 P9 F9 N9
      obtain ⟨f1, f2, f3, f4, f5, f6⟩ := R1_facts hN hD hp hbN hbD hp2 P9
      try k_fold)
  k_with "execs cons" => (
    (try dsimp only)
    (with_reducible show wpAny _ _ (execs (Stmt.Assign [Expr.Name (PySem.Str.ofString "away") _] (Expr.BoolOp _ _ _) _ :: Stmt.If _ _ _ _ :: _) _) _ _ _)
    refine' execs_cut (σ := Bool) (fun _ => news) (fun c => [(PySem.Str.ofString "away", .bool c), (PySem.Str.ofString "exp", .int c9.e c9.te), (PySem.Str.ofString "whole", .int c9.w c9.tw), (PySem.Str.ofString "rest", .int c9.r c9.tr), (PySem.Str.ofString "low", .int c9.l c9.tl), (PySem.Str.ofString "sign", .int sg c1.1), (PySem.Str.ofString "rnd", .str md.str t4)])
      (fun c => c = aw6 md sg) ?dF ?d1 ?d2
    (case dF => k_asm)
    (case' d1 => try k_fold)
    case' d2 =>
      intro c6 m9 h9 tk9 P6 F9 N9
      try k_fold)
  k_with "execs cons" => (
    (try dsimp only)
    (with_reducible show wpAny _ _ (execs (Stmt.If (Expr.Compare (Expr.Name (PySem.Str.ofString "rnd") _) _ _ _) _ _ _ :: _) _) _ _ _)
    refine' execs_cut (σ := Bool) (fun _ => news) (fun c => [(PySem.Str.ofString "away", .bool c), (PySem.Str.ofString "exp", .int c9.e c9.te), (PySem.Str.ofString "whole", .int c9.w c9.tw), (PySem.Str.ofString "rest", .int c9.r c9.tr), (PySem.Str.ofString "low", .int c9.l c9.tl), (PySem.Str.ofString "sign", .int sg c1.1)])
      (fun c => c = aw7 md sg c9.w c9.r c9.l) ?eF ?e1 ?e2
    (case eF => k_asm)
    (case' e1 => try k_fold)
    case' e2 =>
      intro c7 m9 h9 tk9 P7 F9 N9
      try k_fold)
  k_with "execs cons" => (
    (try dsimp only)
    (with_reducible show wpAny _ _ (execs (Stmt.If (Expr.BoolOp _ (Expr.Name (PySem.Str.ofString "away") _ :: _) _) _ _ _ :: _) _) _ _ _)
    refine' execs_cut (σ := Int × Tok) (fun _ => news) (fun c => [(PySem.Str.ofString "exp", .int c9.e c9.te), (PySem.Str.ofString "whole", .int c.1 c.2), (PySem.Str.ofString "sign", .int sg c1.1)])
      (fun c => c.1 = ((LR md sg N D p).1 : Nat) ∧ c9.e = (LR md sg N D p).2) ?fF ?f1 ?f2
    (case fF => k_asm)
    (case' f1 => try k_fold)
    case' f2 =>
      intro c8 m9 h9 tk9 P8 F9 N9
      try k_fold)
  k_with "exec While Compare cons nil" => (
    (with_reducible show wpAny _ _ (exec (Stmt.While (Expr.Compare (Expr.BinOp _ _ _ _) _ _ _) _ _ _) _) _ _ _)
    refine' while_cut (σ := Int × Int × Tok × Tok) (fun _ => news) (fun c => [(PySem.Str.ofString "whole", .int c.1 c.2.2.1), (PySem.Str.ofString "exp", .int c.2.1 c.2.2.2), (PySem.Str.ofString "sign", .int sg c1.1)])
      (fun c => R2 (LR md sg N D p).1 (LR md sg N D p).2 c.1 c.2.1) (fun c => c.1.toNat) ⟨_, _, _, _⟩ ?gF ?gN ?gk ?gp ?gt ?gE
    (case gF => k_asm)
    (case gN => k_asm)
    (case gk => (repeat (refine List.forall_mem_cons.mpr ⟨by exact rfl, ?_⟩)); exact fun _ h => nomatch h)
    (case gp => exact R2_start (LR_pos hN hD hp) P8.1 P8.2)
    (case gE => passes_own)
    case' gt =>
      intro c5 m9 h9 tk9 P5 F9 N9
      try k_fold)
  refine wpAny_call ?_
  k_dflt cell_enter
  k_steps
  all_goals (try dsimp only)
  all_goals first
    | ((obtain ⟨e1, e2, e3⟩ := R2_end P5 (by assumption)); refine endT hret ⟨rfl, e1, e2, e3⟩ (by assumption) (by assumption) (List.Mem.head _) (fun _ h => List.Mem.tail _ h) (by assumption))
    | (refine CutEnd.intro (c := (_, _, _, _)) (by assumption) (by assumption) (by first | exact fun _ h => h | exact fun _ h => List.Mem.tail _ h | exact fun _ h => List.Mem.tail _ (List.Mem.tail _ h)) (by (repeat (refine List.forall_mem_cons.mpr ⟨by exact rfl, ?_⟩)); exact fun _ h => nomatch h) ?_; exact R2_turn P5 (by assumption))
    | (refine CutEnd.intro (c := RS.mk (c9.e + 1) (Int.fdiv (N : Int) ((D : Int) * 2 ^ (c9.e + 1).toNat)) (Int.fmod (N : Int) ((D : Int) * 2 ^ (c9.e + 1).toNat)) ((D : Int) * 2 ^ (c9.e + 1).toNat) _ _ _ _) (by assumption) (by assumption) (by first | exact fun _ h => h | exact fun _ h => List.Mem.tail _ h | exact fun _ h => List.Mem.tail _ (List.Mem.tail _ h)) (by (repeat (refine List.forall_mem_cons.mpr ⟨by exact rfl, ?_⟩)); exact fun _ h => nomatch h) (R1_turn hN hD hp P9 (by assumption) (rv_pos (N := N) (D := D) (K := c9.e + 1) (by assumption)).1 (rv_pos (N := N) (D := D) (K := c9.e + 1) (by assumption)).2.1 (rv_pos (N := N) (D := D) (K := c9.e + 1) (by assumption)).2.2))
    | (refine CutEnd.intro (c := RS.mk (c9.e + 1) (Int.fdiv ((N : Int) * 2 ^ (-(c9.e + 1)).toNat) (D : Int)) (Int.fmod ((N : Int) * 2 ^ (-(c9.e + 1)).toNat) (D : Int)) ((D : Int)) _ _ _ _) (by assumption) (by assumption) (by first | exact fun _ h => h | exact fun _ h => List.Mem.tail _ h | exact fun _ h => List.Mem.tail _ (List.Mem.tail _ h)) (by (repeat (refine List.forall_mem_cons.mpr ⟨by exact rfl, ?_⟩)); exact fun _ h => nomatch h) (R1_turn hN hD hp P9 (by assumption) (rv_neg (N := N) (D := D) (K := c9.e + 1) (by assumption)).1 (rv_neg (N := N) (D := D) (K := c9.e + 1) (by assumption)).2.1 (rv_neg (N := N) (D := D) (K := c9.e + 1) (by assumption)).2.2))
    | (refine CutEnd.intro (c := RS.mk (c9.e + 1) (Int.fdiv (N : Int) (D : Int)) (Int.fmod (N : Int) (D : Int)) ((D : Int)) _ _ _ _) (by assumption) (by assumption) (by first | exact fun _ h => h | exact fun _ h => List.Mem.tail _ h | exact fun _ h => List.Mem.tail _ (List.Mem.tail _ h)) (by (repeat (refine List.forall_mem_cons.mpr ⟨by exact rfl, ?_⟩)); exact fun _ h => nomatch h) (R1_turn hN hD hp P9 (by assumption) (rv_nil (N := N) (D := D) (K := c9.e + 1) (by assumption) (by assumption)).1 (rv_nil (N := N) (D := D) (K := c9.e + 1) (by assumption) (by assumption)).2.1 (rv_nil (N := N) (D := D) (K := c9.e + 1) (by assumption) (by assumption)).2.2))
    | (refine CutEnd.intro (c := ((_ : Int), (_ : Tok))) (by assumption) (by assumption) (by first | exact fun _ h => h | exact fun _ h => List.Mem.tail _ h | exact fun _ h => List.Mem.tail _ (List.Mem.tail _ h)) (by (repeat (refine List.forall_mem_cons.mpr ⟨by exact rfl, ?_⟩)); exact fun _ h => nomatch h) ?_)
    | (refine CutEnd.intro (c := (_ : Bool)) (by assumption) (by assumption) (by first | exact fun _ h => h | exact fun _ h => List.Mem.tail _ h | exact fun _ h => List.Mem.tail _ (List.Mem.tail _ h)) (by (repeat (refine List.forall_mem_cons.mpr ⟨by exact rfl, ?_⟩)); exact fun _ h => nomatch h) ?_)
    | (refine CutEnd.intro (c := ((_ : Tok), (_ : Tok))) (by assumption) (by assumption) (by first | exact fun _ h => h | exact fun _ h => List.Mem.tail _ h | exact fun _ h => List.Mem.tail _ (List.Mem.tail _ h)) (by (refine List.forall_mem_cons.mpr ⟨congrArg (fun x => some (Value.int x _)) (ex1 (by assumption)), ?_⟩); (refine List.forall_mem_cons.mpr ⟨congrArg (fun x => some (Value.int x _)) (by omega : -above = (N : Int)), ?_⟩); (repeat (refine List.forall_mem_cons.mpr ⟨by exact rfl, ?_⟩)); exact fun _ h => nomatch h) True.intro)
    | (refine CutEnd.intro (c := ((_ : Tok), (_ : Tok))) (by assumption) (by assumption) (by first | exact fun _ h => h | exact fun _ h => List.Mem.tail _ h | exact fun _ h => List.Mem.tail _ (List.Mem.tail _ h)) (by (refine List.forall_mem_cons.mpr ⟨congrArg (fun x => some (Value.int x _)) (ex2 (by assumption)), ?_⟩); (refine List.forall_mem_cons.mpr ⟨congrArg (fun x => some (Value.int x _)) (by omega : above = (N : Int)), ?_⟩); (repeat (refine List.forall_mem_cons.mpr ⟨by exact rfl, ?_⟩)); exact fun _ h => nomatch h) True.intro)
  all_goals first
    | exact (p8 (LR_one hD (R1_end P9 (by assumption)) P7)).1 (by assumption) (by assumption)
    | exact (p8 (LR_one hD (R1_end P9 (by assumption)) P7)).2.1 (by assumption) (by assumption)
    | exact (p8 (LR_one hD (R1_end P9 (by assumption)) P7)).2.2 (by assumption)
    | exact p7a (by assumption) (by assumption)
    | exact p7b (by assumption) (by assumption) (by assumption)
    | exact p7c (by assumption) (by assumption) (by assumption)
    | exact p7n (by assumption) P6
    | exact p6u (by assumption)
    | exact p6c (by assumption)
    | exact p6f (by assumption)
    | exact p6cn (by assumption) (by assumption) (by assumption)
    | exact p6n (by assumption) (by assumption) (by assumption)
end Mine
end
section
open PySem PySem.W PySem.Spec PySem.Calls PyProof.Rows
set_option maxHeartbeats 1000000
namespace Mine
local macro_rules | `(tactic| walk_at "execs cons") => `(tactic| k_extra "execs cons")
local macro_rules | `(tactic| walk_at "call ref") => `(tactic| k_extra "call ref")
local macro_rules | `(tactic| walk_at "isTrue Subscript") => `(tactic| k_extra "isTrue Subscript")
local macro_rules | `(tactic| walk_at "eval Call") => `(tactic| (k_here; (with_reducible show wpAny _ _ (eval (Expr.Call (Expr.Name _ _) _ [] _) _) _ _ _); k_dflt (refine Call_ ?_)))
local macro_rules | `(tactic| walk_at "ite") => `(tactic| (k_here; (try dsimp only); first
  | ((with_reducible show (if (_ != (0 : Int)) = true then _ else _)); (refine ite_ne0 (fun hC => ?_) (fun hC => ?_)) <;> first | (exfalso; omega) | skip)
  | ((with_reducible show (if (decide _) = true then _ else _)); (refine ite_dec (fun hC => ?_) (fun hC => ?_)) <;> first | (exfalso; omega) | skip)
  | ((with_reducible show (if ((_ : Int) == _) = true then _ else _)); (refine ite_beq (fun hC => ?_) (fun hC => ?_)) <;> first | (exfalso; omega) | skip)))
local macro_rules | `(tactic| walk_at "binaryOp RShift int int") => `(tactic| (k_here; (with_reducible refine rshift_int ?hn ?_); (case hn => omega)))
local macro_rules | `(tactic| walk_at "inplaceOp RShift int int") => `(tactic| (k_here; (with_reducible refine irshift_int ?hn ?_); (case hn => omega)))
local macro_rules | `(tactic| ktr_call $x $c) => `(tactic| ((refine' CI.use $x ?k1 ?k2 ?k3 ?k4 ?k5 ?kK ?kd ?ku ?kR); (case k1 => k_asm); (case k2 => k_asm); (case k3 => k_asm); (case k4 => k_asm); (case k5 => k_asm); (case kK => first | exact rfl | assumption); (case kd => ktr_room); (case ku => ktr_units); (case' kR => (intro t9 h9 tk9 F9 N9; (try dsimp only); (try k_fold)))))
local macro_rules | `(tactic| ktn_call $x $c) => `(tactic| ((refine' CT.use $x ?k1 ?k2 ?k3 ?k4 ?k5 ?kK ?kd ?ku ?kR); (case k1 => k_asm); (case k2 => k_asm); (case k3 => k_asm); (case k4 => k_asm); (case k5 => k_asm); (case kK => first | exact rfl | assumption); (case kd => ktr_room); (case ku => ktr_units); (case' kR => (intro D9 u1 u2 u3 u4 k9 h9 tk9 F9 N9 l9; (try k_lt l9); (try dsimp only); (try k_fold)))))
local macro_rules | `(tactic| ktr_call $x $c) => `(tactic| ((refine' CF.use $x ?k1 ?k2 ?k3 ?k4 ?k5 ?kK ?kd ?ku ?kR); (case k1 => k_asm); (case k2 => k_asm); (case k3 => k_asm); (case k4 => k_asm); (case k5 => k_asm); (case kK => first | exact rfl | assumption); (case kd => ktr_room); (case ku => ktr_units); (case' kR => (intro h9 tk9 F9 N9; (try dsimp only); (try k_fold)))))
local macro_rules | `(tactic| cell_enter) => `(tactic| (refine' code_def ?k1 ?k2 ?k3 ?k4 ?k5 ?kA ?kF ?kK ?k6 ?k7 ?k8 ?k9 ?kB ?_ ?c2 ?c3 ?c4 ?c5; (case kA => exact rfl); (case kF => exact rfl); (case kK => first | exact rfl | assumption); (case k1 => k_asm); (case k2 => k_asm); (case k3 => k_asm); (case k4 => k_asm); (case k5 => k_asm); (case k6 => k_is); (case k7 => k_is); (case k8 => ktr_room); (case k9 => first | exact BindsTo.of_eq rfl | exact binds_K (by k_in) rfl (by k_is) rfl rfl rfl); (case c5 => decide); (case kB => exact locs rfl); (case c2 => exact rfl); (case c3 => exact rfl); (case c4 => exact rfl); k_whole; intro g' L' h' FG' F' N' B' X' T'; (try dsimp only); (try k_lift B'); (try k_fold)))
local macro_rules | `(tactic| walk_at "binaryOp LShift int int") => `(tactic| (k_here; first
  | ((with_reducible refine lshift_int_small ?ha ?hb ?hc ?_); (case ha => omega); (case hb => omega); (case hc => decide))
  | ((with_reducible refine lshift_int ?ha ?hb ?_); (case ha => omega); (case hb => omega))))
local macro_rules | `(tactic| walk_at "call builtin:divmod") => `(tactic| (k_here; (with_reducible show wpAny _ _ (call (Value.builtin _) [Value.int _ _, Value.int _ _]) _ _ _); refine divmod_N (by assumption) (by assumption) (by omega) ?_ (Or.inl (PyProof.noPylong_of_log2 (by assumption))); intro _ _ _))
local macro_rules | `(tactic| ked_read) => `(tactic| first | exact read4N (by k_asm) (by k_mem) | exact read4K (by k_in) (by k_is) rfl)
local macro_rules | `(tactic| walk_at "compareOp Eq ref ref") => `(tactic| (k_here; (with_reducible show wpAny _ _ (compareOp CmpOp.Eq (Value.ref _) (Value.ref _)) _ _ _); k_dflt ((refine' eq4 ?hX ?hY ?hu ?_); (case hX => ked_read); (case hY => ked_read); (case hu => ktr_units))))
local macro_rules | `(tactic| ktn_call $x $c) => `(tactic| ((refine' C2.use $x ?k1 ?k2 ?k3 ?k4 ?k5 ?kK ?kd ?ku ?kR); (case k1 => k_asm); (case k2 => k_asm); (case k3 => k_asm); (case k4 => k_asm); (case k5 => k_asm); (case kK => first | exact rfl | assumption); (case kd => ktr_room); (case ku => ktr_units); (case' kR => (intro D9 u1 u2 k9 h9 tk9 F9 N9 l9; (try k_lt l9); (try dsimp only); (try k_fold)))))
local macro_rules | `(tactic| walk_at "binaryOp Pow int int") => `(tactic| (k_here; (with_reducible refine pow2 ?ha ?hb ?_); (case ha => omega); (case hb => omega)))
theorem con_rounded0 (w : World) {above below prec : Int} {t1 t2 t3 t4 : Tok} (md : Md) (ha : above = 0) (news : List (Addr × Obj)) :
    CT w 135 4 [.int above t1, .int below t2, .int prec t3, .str md.str t4] news 0 0 0 0 := by
  intro mean mg mb dp un gd cn cs a ccd cl outer A₀ base h₀ L m s Q E B F X Ns T hk hd hu hret
  k_with_none
  refine wpAny_call ?_
  k_dflt cell_enter
  k_steps
  all_goals (refine endT hret ⟨rfl, rfl, rfl, rfl⟩ (by assumption) (by assumption) (List.Mem.head _) (fun _ h => List.Mem.tail _ h) (by assumption))
def sgq (above below : Int) : Int := if below < 0 then (if -above < 0 then 1 else 0) else (if above < 0 then 1 else 0)
theorem con_quotient (w : World) {above below prec : Int} {N D p : Nat} {t1 t2 t3 t4 : Tok} (md : Md) (ha : above ≠ 0) (eN : above.natAbs = N) (hb0 : below ≠ 0) (eD : below.natAbs = D) (ep : prec = p) (hp : 0 < p) (hp2 : p ≤ 1000) (hbN : bl N ≤ 6000) (hbD : bl D ≤ 6000) (news : List (Addr × Obj)) :
    CT w 142 5 [.int above t1, .int below t2, .int prec t3, .str md.str t4] news (sgq above below) (can (LR md (sgq above below) N D p)).1 (can (LR md (sgq above below) N D p)).2 (bl (can (LR md (sgq above below) N D p)).1) := by
  have hD : 0 < D := by omega
  by_cases hn : below < 0
  · have es : sgq above below = (if -above < 0 then 1 else 0) := by unfold sgq; rw [if_pos hn]
    rw [es]
    intro mean mg mb dp un gd cn cs a ccd cl outer A₀ base h₀ L m s Q E B F X Ns T hk hd hu hret
    k_with_none
    k_with "call ref" => (
      (with_reducible show wpAny _ _ (call (Value.ref 135) _) _ _ _)
      ktn_call (con_rounded w md (above := -above) (below := -below) (by omega) (by omega : (-above).natAbs = N) (by omega : -below = (D : Int)) hD ep hp hp2 hbN hbD _) ())
    refine wpAny_call ?_
    k_dflt cell_enter
    k_steps
    all_goals (refine endT hret ⟨rfl, rfl, rfl, rfl⟩ (by assumption) (by assumption) (List.Mem.head _) (fun _ h => List.Mem.tail _ h) (by assumption))
  · have es : sgq above below = (if above < 0 then 1 else 0) := by unfold sgq; rw [if_neg hn]
    rw [es]
    intro mean mg mb dp un gd cn cs a ccd cl outer A₀ base h₀ L m s Q E B F X Ns T hk hd hu hret
    k_with_none
    k_with "call ref" => (
      (with_reducible show wpAny _ _ (call (Value.ref 135) _) _ _ _)
      ktn_call (con_rounded w md (above := above) (below := below) (by omega) eN (by omega : below = (D : Int)) hD ep hp hp2 hbN hbD _) ())
    refine wpAny_call ?_
    k_dflt cell_enter
    k_steps
    all_goals (refine endT hret ⟨rfl, rfl, rfl, rfl⟩ (by assumption) (by assumption) (List.Mem.head _) (fun _ h => List.Mem.tail _ h) (by assumption))
theorem con_quotient0 (w : World) {above below prec : Int} {t1 t2 t3 t4 : Tok} (md : Md) (ha : above = 0) (news : List (Addr × Obj)) :
    CT w 142 5 [.int above t1, .int below t2, .int prec t3, .str md.str t4] news 0 0 0 0 := by
  intro mean mg mb dp un gd cn cs a ccd cl outer A₀ base h₀ L m s Q E B F X Ns T hk hd hu hret
  k_with_none
  k_with "call ref" => (
    (with_reducible show wpAny _ _ (call (Value.ref 135) _) _ _ _)
    ktn_call (con_rounded0 w md (by omega) _) ())
  refine wpAny_call ?_
  k_dflt cell_enter
  k_steps
  all_goals (refine endT hret ⟨rfl, rfl, rfl, rfl⟩ (by assumption) (by assumption) (List.Mem.head _) (fun _ h => List.Mem.tail _ h) (by assumption))
end Mine
end
section
open PySem PySem.W PySem.Spec PySem.Calls PyProof.Rows
set_option maxHeartbeats 1000000
namespace Mine
local macro_rules | `(tactic| walk_at "execs cons") => `(tactic| k_extra "execs cons")
local macro_rules | `(tactic| walk_at "call ref") => `(tactic| k_extra "call ref")
local macro_rules | `(tactic| walk_at "isTrue Subscript") => `(tactic| k_extra "isTrue Subscript")
local macro_rules | `(tactic| walk_at "eval Call") => `(tactic| (k_here; (with_reducible show wpAny _ _ (eval (Expr.Call (Expr.Name _ _) _ [] _) _) _ _ _); k_dflt (refine Call_ ?_)))
local macro_rules | `(tactic| walk_at "ite") => `(tactic| (k_here; (try dsimp only); first
  | ((with_reducible show (if (_ != (0 : Int)) = true then _ else _)); (refine ite_ne0 (fun hC => ?_) (fun hC => ?_)) <;> first | (exfalso; omega) | skip)
  | ((with_reducible show (if (decide _) = true then _ else _)); (refine ite_dec (fun hC => ?_) (fun hC => ?_)) <;> first | (exfalso; omega) | skip)
  | ((with_reducible show (if ((_ : Int) == _) = true then _ else _)); (refine ite_beq (fun hC => ?_) (fun hC => ?_)) <;> first | (exfalso; omega) | skip)))
local macro_rules | `(tactic| walk_at "binaryOp RShift int int") => `(tactic| (k_here; (with_reducible refine rshift_int ?hn ?_); (case hn => omega)))
local macro_rules | `(tactic| walk_at "inplaceOp RShift int int") => `(tactic| (k_here; (with_reducible refine irshift_int ?hn ?_); (case hn => omega)))
local macro_rules | `(tactic| ktr_call $x $c) => `(tactic| ((refine' CI.use $x ?k1 ?k2 ?k3 ?k4 ?k5 ?kK ?kd ?ku ?kR); (case k1 => k_asm); (case k2 => k_asm); (case k3 => k_asm); (case k4 => k_asm); (case k5 => k_asm); (case kK => first | exact rfl | assumption); (case kd => ktr_room); (case ku => ktr_units); (case' kR => (intro t9 h9 tk9 F9 N9; (try dsimp only); (try k_fold)))))
local macro_rules | `(tactic| ktn_call $x $c) => `(tactic| ((refine' CT.use $x ?k1 ?k2 ?k3 ?k4 ?k5 ?kK ?kd ?ku ?kR); (case k1 => k_asm); (case k2 => k_asm); (case k3 => k_asm); (case k4 => k_asm); (case k5 => k_asm); (case kK => first | exact rfl | assumption); (case kd => ktr_room); (case ku => ktr_units); (case' kR => (intro D9 u1 u2 u3 u4 k9 h9 tk9 F9 N9 l9; (try k_lt l9); (try dsimp only); (try k_fold)))))
local macro_rules | `(tactic| ktr_call $x $c) => `(tactic| ((refine' CF.use $x ?k1 ?k2 ?k3 ?k4 ?k5 ?kK ?kd ?ku ?kR); (case k1 => k_asm); (case k2 => k_asm); (case k3 => k_asm); (case k4 => k_asm); (case k5 => k_asm); (case kK => first | exact rfl | assumption); (case kd => ktr_room); (case ku => ktr_units); (case' kR => (intro h9 tk9 F9 N9; (try dsimp only); (try k_fold)))))
local macro_rules | `(tactic| cell_enter) => `(tactic| (refine' code_def ?k1 ?k2 ?k3 ?k4 ?k5 ?kA ?kF ?kK ?k6 ?k7 ?k8 ?k9 ?kB ?_ ?c2 ?c3 ?c4 ?c5; (case kA => exact rfl); (case kF => exact rfl); (case kK => first | exact rfl | assumption); (case k1 => k_asm); (case k2 => k_asm); (case k3 => k_asm); (case k4 => k_asm); (case k5 => k_asm); (case k6 => k_is); (case k7 => k_is); (case k8 => ktr_room); (case k9 => first | exact BindsTo.of_eq rfl | exact binds_K (by k_in) rfl (by k_is) rfl rfl rfl); (case c5 => decide); (case kB => exact locs rfl); (case c2 => exact rfl); (case c3 => exact rfl); (case c4 => exact rfl); k_whole; intro g' L' h' FG' F' N' B' X' T'; (try dsimp only); (try k_lift B'); (try k_fold)))
local macro_rules | `(tactic| walk_at "binaryOp LShift int int") => `(tactic| (k_here; first
  | ((with_reducible refine lshift_int_small ?ha ?hb ?hc ?_); (case ha => omega); (case hb => omega); (case hc => decide))
  | ((with_reducible refine lshift_int ?ha ?hb ?_); (case ha => omega); (case hb => omega))))
local macro_rules | `(tactic| walk_at "call builtin:divmod") => `(tactic| (k_here; (with_reducible show wpAny _ _ (call (Value.builtin _) [Value.int _ _, Value.int _ _]) _ _ _); refine divmod_N (by assumption) (by assumption) (by omega) ?_ (Or.inl (PyProof.noPylong_of_log2 (by assumption))); intro _ _ _))
local macro_rules | `(tactic| ked_read) => `(tactic| first | exact read4N (by k_asm) (by k_mem) | exact read4K (by k_in) (by k_is) rfl)
local macro_rules | `(tactic| walk_at "compareOp Eq ref ref") => `(tactic| (k_here; (with_reducible show wpAny _ _ (compareOp CmpOp.Eq (Value.ref _) (Value.ref _)) _ _ _); k_dflt ((refine' eq4 ?hX ?hY ?hu ?_); (case hX => ked_read); (case hY => ked_read); (case hu => ktr_units))))
local macro_rules | `(tactic| ktn_call $x $c) => `(tactic| ((refine' C2.use $x ?k1 ?k2 ?k3 ?k4 ?k5 ?kK ?kd ?ku ?kR); (case k1 => k_asm); (case k2 => k_asm); (case k3 => k_asm); (case k4 => k_asm); (case k5 => k_asm); (case kK => first | exact rfl | assumption); (case kd => ktr_room); (case ku => ktr_units); (case' kR => (intro D9 u1 u2 k9 h9 tk9 F9 N9 l9; (try k_lt l9); (try dsimp only); (try k_fold)))))
local macro_rules | `(tactic| walk_at "binaryOp Pow int int") => `(tactic| (k_here; (with_reducible refine pow2 ?ha ?hb ?_); (case ha => omega); (case hb => omega)))
local macro_rules | `(tactic| k_mem) => `(tactic| first | with_reducible assumption | exact List.Mem.tail _ (by with_reducible assumption) | exact List.Mem.tail _ (List.Mem.tail _ (by with_reducible assumption)) | exact List.Mem.tail _ (List.Mem.tail _ (List.Mem.tail _ (by with_reducible assumption))))
local macro_rules | `(tactic| walk_at "assign Tuple") => `(tactic| (k_here; (with_reducible show wpAny _ _ (assign (Expr.Tuple _ _ _) _ (Value.ref _)) _ _ _); k_dflt (refine unpackN_ (by assumption) (by assumption) (News.isTup (by assumption) (by first | assumption | exact List.Mem.head _ | exact List.Mem.tail _ (by assumption) | exact List.Mem.tail _ (List.Mem.head _))) (by rfl) (by rfl) (by rfl) ?_); intro h' F' N'; (try k_sweep)))
local macro_rules | `(tactic| ked_read) => `(tactic| first | exact read4N (by assumption) (by first | assumption | exact List.Mem.head _ | exact List.Mem.tail _ (by assumption) | exact List.Mem.tail _ (List.Mem.head _)) | exact read4K (by k_in) (by k_is) rfl)
local macro_rules | `(tactic| walk_at "exec Raise some none") => `(tactic| (k_here; (with_reducible show wpAny _ _ (exec (Stmt.Raise (some (Expr.Name _ _)) none _) _) _ _ _); (with_reducible rename Fr _ _ _ _ => kF); k_dflt (refine' Raise_classB rfl excClass_ZeroDivisionError ?hself ?hx ?_; (case hself => (rw [isSubtype_type]; kernel_rfl)); (case hx => (refine' name_B kF ?k1 ?k2 ?k3 ?k4 ?k5 ?_; (case k1 => k_asm); (case k2 => k_asm); (case k3 => k_is); (case k4 => boot_by_name); (case k5 => decide); exact ⟨rfl, rfl⟩)); intro _ _ _)))
def Call0 (w : World) (f : Addr) (n : Nat) (vs : List Value) (news : List (Addr × Obj)) : Prop :=
  ∀ (mean : ExcName → Option Value) (mg mb : Str → Option Value) (dp un : Nat) (gd : Option (List Code)) (cn : Str) (cs : Scope) (a : Addr) (ccd : Value) (cl : List (Str × Addr)) (A₀ : Around) (base h₀ : Heap) (L : Addr) (m : Str → Option Value) (s : Shared) (Q E : Value → Shared → Prop),
    (hd.heap_39 w.params).In base → Top hd.view_39 LS mean mg mb base → Below A₀ base [] h₀ → Fr h₀ L s.heap m → (hd.heap_39 w.params).In h₀ → News h₀ L s.heap news → Top hd.view_39 LS mean mg mb h₀ → cs.kind = .function → dp + n < recursionLimit → un + 8 * n < cLine → RetB h₀ L m news s Q →
    wpAny (model PySem.Challenge.pw_ah5003_01 w) (ktrTop dp un gd cn cs L a ccd cl []) (call (.ref f) vs) Q E s
section
variable {prog : Program} {w : World} {A₀ A : Around} {s : Shared} {base h₀ : Heap} {L : Addr} {m : Str → Option Value} {env : Env} {news : List (Addr × Obj)} {K : Frag} {p : Program} {loose : List Str} {mean : ExcName → Option Value} {mg mb : Str → Option Value}
  {R : Result → Shared → Prop} {name qual : Str} {params : Arguments} {body : List Stmt} {scope : Scope} {dV kV doc pm cdv ct oc : Value} {an od : Option Addr} {osl : Array (Option Value)} {f : Addr} {args : Args} {binds : List (Str × Value)}
/-- a def entered from the law's own frame, whose cells may be many; inside it an exception may be caught -/
theorem enter0 (B : Below A₀ base [] h₀) (F : Fr h₀ L s.heap m) (X₀ : K.In h₀) (N : News h₀ L s.heap news) (T : Top p loose mean mg mb h₀) (hA : A.frames = some [env]) (hf : env.frame = some L) (hke : env.scope.kind = .function)
    (ho : K.lookup f = some ⟨oc, od, .func (fnOf name qual params body scope dV kV doc pm an cdv ct), osl⟩) (hcd : codeIn K cdv qual = true) (hroom : A.depth < recursionLimit)
    (hbind : BindsTo s (fnOf name qual params body scope dV kV doc pm an cdv ct) args binds) (hloc : ∀ y ∈ binds, scope.names.lookup y.1 = some .local)
    (h : ∀ g L' h₁, Fr h₀ L g m → Fr g L' h₁ (fun y => binds.reverse.lookup y) → News g L' h₁ news → Below A base [env] g → K.In g → Top p loose mean mg mb g → KtsDicts ([env].filterMap (·.frame)) g →
      wpAny (model prog w) (A.deeper (envOf qual scope L' f cdv)) (execs body (envOf qual scope L' f cdv))
        (fun fl s' => LeaveS0 ([env].filterMap (·.frame)) h₀ L m g R (match fl with | .ret v => v | _ => .none) s')
        (fun e s' => wpAny (model prog w) (A.deeper (envOf qual scope L' f cdv)) (leaving (envOf qual scope L' f cdv) e) (fun _ s'' => R (.error e) s'') (fun e' s'' => R (.error e') s'') s')
        { s with heap := h₁, toks := s.toks + binds.length })
    (hcell : ∀ x ∈ scope.names, x.2 ≠ .cell) (hco : scope.isCoroutine = false) (hgen : scope.isGenerator = false) (hk : scope.kind = .function) : codeAny (model prog w) A (.call (.ref f) args) R s := by
  have X := X₀.keeps F.keep
  obtain ⟨FG, BG, st, _⟩ := groundX (R := R) B F N hA hf hke
  have efs : [env].filterMap (·.frame) = [L] := by simp [hf]
  refine codeAny_call_def (fd := fnOf name qual params body scope dV kV doc pm an cdv ct) (body := body) (binds := binds) hroom (X _ _ ho) rfl (T.nolimit.keeps F.keep) (codeRec_of X hcd) rfl hbind hcell hloc (fun h₁ hns up => ?_) hco hgen hk
  refine wpAny_mono (h _ s.heap.objs.size h₁ FG ⟨hns, fun b o e => up b o (of_hideAll _ e), Nat.le_of_eq (hideAll_size _ _)⟩
    (fun p hp => ⟨up _ _ (N p hp).1, Nat.ne_of_lt (Heap.lt_size (N p hp).1), hideAll_none _ (List.mem_map_of_mem hp)⟩) BG (X₀.keeps st) (T.keeps st) (fun b hb => ?_)) (fun fl s' hl => ?_) fun _ _ y => y
  · rw [efs] at hb
    obtain rfl : b = L := by simpa using hb
    obtain ⟨o, es, ep, ho', hd', _⟩ := FG.ns
    exact ⟨o, es, ep, ho', hd'⟩
  · obtain ⟨g', L', m', news', T', F', N', k⟩ := hl
    rw [efs] at T'
    obtain ⟨oL, es, ep, hL, hLd, hLk, hLf⟩ := FG.ns
    obtain ⟨sl, hs⟩ := T'.up hL
    have nL := kts_self F
    refine k ⟨⟨_, es, ep, F'.keep _ _ hs, hLd, hLk, hLf⟩, fun b o e => F'.keep _ _ (T'.other _ _ (st b o e) fun q => ?_), F.above⟩ fun q hq => ⟨(N' q hq).1, fun e => ?_, ?_⟩
    · obtain rfl : b = L := by simpa using q
      rw [nL] at e
      cases e
    · have := (N' q hq).2.2
      rw [e, hs] at this
      cases this
    · cases e : h₀.get? q.1 with
      | none => rfl
      | some o =>
        obtain ⟨sl', hs'⟩ := T'.up (st _ _ e)
        have := (N' q hq).2.2
        rw [hs'] at this
        cases this
end
theorem refused_div (w : World) {S : Addr} {sg sm e sb : Int} {num prec : Int} {k1 : Nat} {s1 s2 s3 s4 t0 t1 t2 t3 : Tok} (md : Md) (hz : sm ≠ 0 ∨ (sg = 0 ∧ sm = 0 ∧ e = 0 ∧ sb = 0)) (news : List (Addr × Obj)) (hS : (S, tup4 sg sm e sb s1 s2 s3 s4 k1) ∈ news) :
    Call0 w 149 40 [.int 0 t0, .ref S, .int num t1, .int prec t2, .str md.str t3] news := by
  intro mean mg mb dp un gd cn cs a ccd cl A₀ base h₀ L m s Q E XB TB B F X N T hk hd hu hret
  k_with_none
  k_with "call ref" => (
    first
    | (with_reducible show wpAny _ _ (call (Value.ref 99) _) _ _ _); refine wpAny_call ?_; k_dflt cell_enter)
  refine wpAny_call ?_
  k_dflt (refine' enter0 ?k1 ?k2 ?k3 ?k4 ?k5 ?kA ?kF ?kK ?k6 ?k7 ?k8 ?k9 ?kB ?_ ?c5 ?c2 ?c3 ?c4; (case kA => exact rfl); (case kF => exact rfl); (case kK => first | exact rfl | assumption); (case k1 => k_asm); (case k2 => k_asm); (case k3 => k_asm); (case k4 => k_asm); (case k5 => k_asm); (case k6 => k_is); (case k7 => k_is); (case k8 => ktr_room); (case k9 => first | exact BindsTo.of_eq rfl | exact binds_K (by k_in) rfl (by k_is) rfl rfl rfl); (case c5 => decide); (case kB => exact locs rfl); (case c2 => exact rfl); (case c3 => exact rfl); (case c4 => exact rfl); k_whole; intro g' L' h' FG' F' N' B' X' T' D'; (try dsimp only); (try k_lift B'); (try k_fold))
  k_steps
  all_goals (refine endB hret (by assumption) (by assumption) (by first | exact fun _ h => h | exact fun _ h => List.Mem.tail _ h | exact fun _ h => List.Mem.tail _ (List.Mem.tail _ h)))
theorem refused_rdiv0 (w : World) {S : Addr} {prec : Int} {t0 t1 t2 t3 : Tok} (md : Md) (news : List (Addr × Obj)) :
    Call0 w 149 40 [.int 1 t0, .ref S, .int 0 t1, .int prec t2, .str md.str t3] news := by
  intro mean mg mb dp un gd cn cs a ccd cl A₀ base h₀ L m s Q E XB TB B F X N T hk hd hu hret
  k_with_none
  k_with "call ref" => (
    first
    | (with_reducible show wpAny _ _ (call (Value.ref 60) _) _ _ _); ktr_call (con_from_int0 w _ _) ()
    | (with_reducible show wpAny _ _ (call (Value.ref 107) _) _ _ _); refine wpAny_call ?_; k_dflt cell_enter
    | (with_reducible show wpAny _ _ (call (Value.ref 99) _) _ _ _); refine wpAny_call ?_; k_dflt cell_enter)
  refine wpAny_call ?_
  k_dflt (refine' enter0 ?k1 ?k2 ?k3 ?k4 ?k5 ?kA ?kF ?kK ?k6 ?k7 ?k8 ?k9 ?kB ?_ ?c5 ?c2 ?c3 ?c4; (case kA => exact rfl); (case kF => exact rfl); (case kK => first | exact rfl | assumption); (case k1 => k_asm); (case k2 => k_asm); (case k3 => k_asm); (case k4 => k_asm); (case k5 => k_asm); (case k6 => k_is); (case k7 => k_is); (case k8 => ktr_room); (case k9 => first | exact BindsTo.of_eq rfl | exact binds_K (by k_in) rfl (by k_is) rfl rfl rfl); (case c5 => decide); (case kB => exact locs rfl); (case c2 => exact rfl); (case c3 => exact rfl); (case c4 => exact rfl); k_whole; intro g' L' h' FG' F' N' B' X' T' D'; (try dsimp only); (try k_lift B'); (try k_fold))
  k_steps
  all_goals (refine endB hret (by assumption) (by assumption) (by first | exact fun _ h => h | exact fun _ h => List.Mem.tail _ h | exact fun _ h => List.Mem.tail _ (List.Mem.tail _ h)))
theorem refused_rdiv (w : World) {S : Addr} {num prec : Int} {t0 t1 t2 t3 : Tok} (md : Md) (h0 : num ≠ 0) (news : List (Addr × Obj)) :
    Call0 w 149 40 [.int 1 t0, .ref S, .int num t1, .int prec t2, .str md.str t3] news := by
  intro mean mg mb dp un gd cn cs a ccd cl A₀ base h₀ L m s Q E XB TB B F X N T hk hd hu hret
  have hc : (cm num.natAbs : Int) ≠ 0 := by have := cm_pos (m := num.natAbs) (by omega); omega
  k_with_none
  k_with "call ref" => (
    first
    | (with_reducible show wpAny _ _ (call (Value.ref 60) _) _ _ _); ktn_call (con_from_int w h0 _ _) ()
    | (with_reducible show wpAny _ _ (call (Value.ref 107) _) _ _ _); refine wpAny_call ?_; k_dflt cell_enter
    | (with_reducible show wpAny _ _ (call (Value.ref 99) _) _ _ _); refine wpAny_call ?_; k_dflt cell_enter)
  refine wpAny_call ?_
  k_dflt (refine' enter0 ?k1 ?k2 ?k3 ?k4 ?k5 ?kA ?kF ?kK ?k6 ?k7 ?k8 ?k9 ?kB ?_ ?c5 ?c2 ?c3 ?c4; (case kA => exact rfl); (case kF => exact rfl); (case kK => first | exact rfl | assumption); (case k1 => k_asm); (case k2 => k_asm); (case k3 => k_asm); (case k4 => k_asm); (case k5 => k_asm); (case k6 => k_is); (case k7 => k_is); (case k8 => ktr_room); (case k9 => first | exact BindsTo.of_eq rfl | exact binds_K (by k_in) rfl (by k_is) rfl rfl rfl); (case c5 => decide); (case kB => exact locs rfl); (case c2 => exact rfl); (case c3 => exact rfl); (case c4 => exact rfl); k_whole; intro g' L' h' FG' F' N' B' X' T' D'; (try dsimp only); (try k_lift B'); (try k_fold))
  k_steps
  all_goals (refine endB hret (by assumption) (by assumption) (by first | exact fun _ h => h | exact fun _ h => List.Mem.tail _ h | exact fun _ h => List.Mem.tail _ (List.Mem.tail _ h)))
theorem refused_rat0 (w : World) {S : Addr} {prec : Int} {t0 t1 t2 t3 : Tok} (md : Md) (news : List (Addr × Obj)) :
    Call0 w 149 40 [.int 2 t0, .ref S, .int 0 t1, .int prec t2, .str md.str t3] news := by
  intro mean mg mb dp un gd cn cs a ccd cl A₀ base h₀ L m s Q E XB TB B F X N T hk hd hu hret
  k_with_none
  k_with "call ref" => (
    first
    | (with_reducible show wpAny _ _ (call (Value.ref 60) _) _ _ _); ktr_call (con_from_int0 w _ _) ()
    | (with_reducible show wpAny _ _ (call (Value.ref 68) _) _ _ _); refine wpAny_call ?_; k_dflt cell_enter
    | (with_reducible show wpAny _ _ (call (Value.ref 99) _) _ _ _); refine wpAny_call ?_; k_dflt cell_enter)
  refine wpAny_call ?_
  k_dflt (refine' enter0 ?k1 ?k2 ?k3 ?k4 ?k5 ?kA ?kF ?kK ?k6 ?k7 ?k8 ?k9 ?kB ?_ ?c5 ?c2 ?c3 ?c4; (case kA => exact rfl); (case kF => exact rfl); (case kK => first | exact rfl | assumption); (case k1 => k_asm); (case k2 => k_asm); (case k3 => k_asm); (case k4 => k_asm); (case k5 => k_asm); (case k6 => k_is); (case k7 => k_is); (case k8 => ktr_room); (case k9 => first | exact BindsTo.of_eq rfl | exact binds_K (by k_in) rfl (by k_is) rfl rfl rfl); (case c5 => decide); (case kB => exact locs rfl); (case c2 => exact rfl); (case c3 => exact rfl); (case c4 => exact rfl); k_whole; intro g' L' h' FG' F' N' B' X' T' D'; (try dsimp only); (try k_lift B'); (try k_fold))
  k_steps
  all_goals (refine endB hret (by assumption) (by assumption) (by first | exact fun _ h => h | exact fun _ h => List.Mem.tail _ h | exact fun _ h => List.Mem.tail _ (List.Mem.tail _ h)))
theorem refused_rat (w : World) {S : Addr} {num prec : Int} {t0 t1 t2 t3 : Tok} (md : Md) (h0 : num ≠ 0) (news : List (Addr × Obj)) :
    Call0 w 149 40 [.int 2 t0, .ref S, .int num t1, .int prec t2, .str md.str t3] news := by
  intro mean mg mb dp un gd cn cs a ccd cl A₀ base h₀ L m s Q E XB TB B F X N T hk hd hu hret
  have hc : (cm num.natAbs : Int) ≠ 0 := by have := cm_pos (m := num.natAbs) (by omega); omega
  k_with_none
  k_with "call ref" => (
    first
    | (with_reducible show wpAny _ _ (call (Value.ref 60) [Value.int 0 _]) _ _ _); ktr_call (con_from_int0 w _ _) ()
    | (with_reducible show wpAny _ _ (call (Value.ref 60) _) _ _ _); ktn_call (con_from_int w h0 _ _) ()
    | (with_reducible show wpAny _ _ (call (Value.ref 68) _) _ _ _); refine wpAny_call ?_; k_dflt cell_enter
    | (with_reducible show wpAny _ _ (call (Value.ref 99) _) _ _ _); refine wpAny_call ?_; k_dflt cell_enter)
  refine wpAny_call ?_
  k_dflt (refine' enter0 ?k1 ?k2 ?k3 ?k4 ?k5 ?kA ?kF ?kK ?k6 ?k7 ?k8 ?k9 ?kB ?_ ?c5 ?c2 ?c3 ?c4; (case kA => exact rfl); (case kF => exact rfl); (case kK => first | exact rfl | assumption); (case k1 => k_asm); (case k2 => k_asm); (case k3 => k_asm); (case k4 => k_asm); (case k5 => k_asm); (case k6 => k_is); (case k7 => k_is); (case k8 => ktr_room); (case k9 => first | exact BindsTo.of_eq rfl | exact binds_K (by k_in) rfl (by k_is) rfl rfl rfl); (case c5 => decide); (case kB => exact locs rfl); (case c2 => exact rfl); (case c3 => exact rfl); (case c4 => exact rfl); k_whole; intro g' L' h' FG' F' N' B' X' T' D'; (try dsimp only); (try k_lift B'); (try k_fold))
  k_steps
  all_goals (refine endB hret (by assumption) (by assumption) (by first | exact fun _ h => h | exact fun _ h => List.Mem.tail _ h | exact fun _ h => List.Mem.tail _ (List.Mem.tail _ h)))
end Mine
end
section
open PySem PySem.W PySem.Spec PySem.Calls PyProof.Rows
set_option maxHeartbeats 1000000
namespace Mine
local macro_rules | `(tactic| walk_at "execs cons") => `(tactic| k_extra "execs cons")
local macro_rules | `(tactic| walk_at "call ref") => `(tactic| k_extra "call ref")
local macro_rules | `(tactic| walk_at "isTrue Subscript") => `(tactic| k_extra "isTrue Subscript")
local macro_rules | `(tactic| walk_at "eval Call") => `(tactic| (k_here; (with_reducible show wpAny _ _ (eval (Expr.Call (Expr.Name _ _) _ [] _) _) _ _ _); k_dflt (refine Call_ ?_)))
local macro_rules | `(tactic| walk_at "ite") => `(tactic| (k_here; (try dsimp only); first
  | ((with_reducible show (if (_ != (0 : Int)) = true then _ else _)); (refine ite_ne0 (fun hC => ?_) (fun hC => ?_)) <;> first | (exfalso; omega) | skip)
  | ((with_reducible show (if (decide _) = true then _ else _)); (refine ite_dec (fun hC => ?_) (fun hC => ?_)) <;> first | (exfalso; omega) | skip)
  | ((with_reducible show (if ((_ : Int) == _) = true then _ else _)); (refine ite_beq (fun hC => ?_) (fun hC => ?_)) <;> first | (exfalso; omega) | skip)))
local macro_rules | `(tactic| walk_at "binaryOp RShift int int") => `(tactic| (k_here; (with_reducible refine rshift_int ?hn ?_); (case hn => omega)))
local macro_rules | `(tactic| walk_at "inplaceOp RShift int int") => `(tactic| (k_here; (with_reducible refine irshift_int ?hn ?_); (case hn => omega)))
local macro_rules | `(tactic| ktr_call $x $c) => `(tactic| ((refine' CI.use $x ?k1 ?k2 ?k3 ?k4 ?k5 ?kK ?kd ?ku ?kR); (case k1 => k_asm); (case k2 => k_asm); (case k3 => k_asm); (case k4 => k_asm); (case k5 => k_asm); (case kK => first | exact rfl | assumption); (case kd => ktr_room); (case ku => ktr_units); (case' kR => (intro t9 h9 tk9 F9 N9; (try dsimp only); (try k_fold)))))
local macro_rules | `(tactic| ktn_call $x $c) => `(tactic| ((refine' CT.use $x ?k1 ?k2 ?k3 ?k4 ?k5 ?kK ?kd ?ku ?kR); (case k1 => k_asm); (case k2 => k_asm); (case k3 => k_asm); (case k4 => k_asm); (case k5 => k_asm); (case kK => first | exact rfl | assumption); (case kd => ktr_room); (case ku => ktr_units); (case' kR => (intro D9 u1 u2 u3 u4 k9 h9 tk9 F9 N9 l9; (try k_lt l9); (try dsimp only); (try k_fold)))))
local macro_rules | `(tactic| ktr_call $x $c) => `(tactic| ((refine' CF.use $x ?k1 ?k2 ?k3 ?k4 ?k5 ?kK ?kd ?ku ?kR); (case k1 => k_asm); (case k2 => k_asm); (case k3 => k_asm); (case k4 => k_asm); (case k5 => k_asm); (case kK => first | exact rfl | assumption); (case kd => ktr_room); (case ku => ktr_units); (case' kR => (intro h9 tk9 F9 N9; (try dsimp only); (try k_fold)))))
local macro_rules | `(tactic| cell_enter) => `(tactic| (refine' code_def ?k1 ?k2 ?k3 ?k4 ?k5 ?kA ?kF ?kK ?k6 ?k7 ?k8 ?k9 ?kB ?_ ?c2 ?c3 ?c4 ?c5; (case kA => exact rfl); (case kF => exact rfl); (case kK => first | exact rfl | assumption); (case k1 => k_asm); (case k2 => k_asm); (case k3 => k_asm); (case k4 => k_asm); (case k5 => k_asm); (case k6 => k_is); (case k7 => k_is); (case k8 => ktr_room); (case k9 => first | exact BindsTo.of_eq rfl | exact binds_K (by k_in) rfl (by k_is) rfl rfl rfl); (case c5 => decide); (case kB => exact locs rfl); (case c2 => exact rfl); (case c3 => exact rfl); (case c4 => exact rfl); k_whole; intro g' L' h' FG' F' N' B' X' T'; (try dsimp only); (try k_lift B'); (try k_fold)))
local macro_rules | `(tactic| walk_at "binaryOp LShift int int") => `(tactic| (k_here; first
  | ((with_reducible refine lshift_int_small ?ha ?hb ?hc ?_); (case ha => omega); (case hb => omega); (case hc => decide))
  | ((with_reducible refine lshift_int ?ha ?hb ?_); (case ha => omega); (case hb => omega))))
local macro_rules | `(tactic| walk_at "call builtin:divmod") => `(tactic| (k_here; (with_reducible show wpAny _ _ (call (Value.builtin _) [Value.int _ _, Value.int _ _]) _ _ _); refine divmod_N (by assumption) (by assumption) (by omega) ?_ (Or.inl (PyProof.noPylong_of_log2 (by assumption))); intro _ _ _))
local macro_rules | `(tactic| ked_read) => `(tactic| first | exact read4N (by k_asm) (by k_mem) | exact read4K (by k_in) (by k_is) rfl)
local macro_rules | `(tactic| walk_at "compareOp Eq ref ref") => `(tactic| (k_here; (with_reducible show wpAny _ _ (compareOp CmpOp.Eq (Value.ref _) (Value.ref _)) _ _ _); k_dflt ((refine' eq4 ?hX ?hY ?hu ?_); (case hX => ked_read); (case hY => ked_read); (case hu => ktr_units))))
local macro_rules | `(tactic| ktn_call $x $c) => `(tactic| ((refine' C2.use $x ?k1 ?k2 ?k3 ?k4 ?k5 ?kK ?kd ?ku ?kR); (case k1 => k_asm); (case k2 => k_asm); (case k3 => k_asm); (case k4 => k_asm); (case k5 => k_asm); (case kK => first | exact rfl | assumption); (case kd => ktr_room); (case ku => ktr_units); (case' kR => (intro D9 u1 u2 k9 h9 tk9 F9 N9 l9; (try k_lt l9); (try dsimp only); (try k_fold)))))
local macro_rules | `(tactic| walk_at "binaryOp Pow int int") => `(tactic| (k_here; (with_reducible refine pow2 ?ha ?hb ?_); (case ha => omega); (case hb => omega)))
def SM (x sg : Int) (n : Nat) : Prop := 0 < n ∧ ((sg = 0 ∧ x = n) ∨ (sg = 1 ∧ x = -(n : Int)))
theorem SM.mul {x y s t : Int} {n m : Nat} (hx : SM x s n) (hy : SM y t m) : SM (x * y) (Builtin.bitXor s t) (n * m) := by
  obtain ⟨h1, hx⟩ := hx
  obtain ⟨h2, hy⟩ := hy
  refine ⟨Nat.mul_pos h1 h2, ?_⟩
  rcases hx with ⟨rfl, rfl⟩ | ⟨rfl, rfl⟩ <;> rcases hy with ⟨rfl, rfl⟩ | ⟨rfl, rfl⟩
  · exact .inl ⟨by decide, (Int.natCast_mul ..).symm⟩
  · exact .inr ⟨by decide, by rw [Int.mul_neg, Int.natCast_mul]⟩
  · exact .inr ⟨by decide, by rw [Int.neg_mul, Int.natCast_mul]⟩
  · exact .inl ⟨by decide, by rw [Int.neg_mul_neg, Int.natCast_mul]⟩
theorem SM.int {x : Int} (h : x ≠ 0) : SM x (if x < 0 then 1 else 0) x.natAbs := by
  refine ⟨by omega, ?_⟩
  split
  · exact .inr ⟨rfl, by omega⟩
  · exact .inl ⟨rfl, by omega⟩
theorem SM.pow (k : Nat) : SM (2 ^ k) 0 (2 ^ k) := ⟨Nat.two_pow_pos k, .inl ⟨rfl, cast_pow k⟩⟩
theorem SM.worth {sg e : Int} {mn : Nat} (hw : WfN sg mn e) (h0 : mn ≠ 0) : SM ((if sg = 1 then -(mn : Int) else mn) * 2 ^ e.toNat) sg (up mn e) := by
  have hs : sg = 0 ∨ sg = 1 := by
    rcases hw with ⟨_, h, _⟩ | ⟨_, h, _⟩
    · exact .inl h
    · exact h
  have h := SM.mul (s := sg) (n := mn) (x := if sg = 1 then -(mn : Int) else mn) ⟨by omega, by rcases hs with rfl | rfl <;> simp⟩ (SM.pow e.toNat)
  have e' : Builtin.bitXor sg 0 = sg := bitXor_zero sg
  rw [e'] at h
  exact h
theorem SM.ne {x s : Int} {n : Nat} (h : SM x s n) : x ≠ 0 ∧ x.natAbs = n ∧ s = (if x < 0 then 1 else 0) ∧ (s = 0 ∨ s = 1) := by
  obtain ⟨h1, ⟨rfl, rfl⟩ | ⟨rfl, rfl⟩⟩ := h
  · exact ⟨by omega, by omega, by rw [if_neg (by omega)], .inl rfl⟩
  · exact ⟨by omega, by omega, by rw [if_pos (by omega)], .inr rfl⟩
theorem SM.sgq {x y s t : Int} {n m : Nat} (hx : SM x s n) (hy : SM y t m) : Builtin.bitXor s t = sgq x y := by
  obtain ⟨h1, ⟨rfl, rfl⟩ | ⟨rfl, rfl⟩⟩ := hx <;> obtain ⟨h2, ⟨rfl, rfl⟩ | ⟨rfl, rfl⟩⟩ := hy <;> unfold Mine.sgq
  · rw [if_neg (by omega), if_neg (by omega)]; decide
  · rw [if_pos (by omega), if_pos (by omega)]; decide
  · rw [if_neg (by omega), if_pos (by omega)]; decide
  · rw [if_pos (by omega), if_neg (by omega)]; decide
theorem NE {md : Md} {x S : Int} {X : Nat × Int} {N D p : Nat} (hS : x = S) (h : can X = can (LR md x N D p)) :
    x = S ∧ ((cm X.1 : Nat) : Int) = ((can (LR md S N D p)).1 : Nat) ∧ (can X).2 = (can (LR md S N D p)).2 ∧ ((bl (cm X.1) : Nat) : Int) = (bl (can (LR md S N D p)).1 : Nat) := by
  subst hS; exact can_eqs h
theorem NE' {md : Md} {x S : Int} {N D p : Nat} (hS : x = S) :
    x = S ∧ (((can (LR md x N D p)).1 : Nat) : Int) = ((can (LR md S N D p)).1 : Nat) ∧ (can (LR md x N D p)).2 = (can (LR md S N D p)).2 ∧ ((bl (can (LR md x N D p)).1 : Nat) : Int) = (bl (can (LR md S N D p)).1 : Nat) := by
  subst hS; exact ⟨rfl, rfl, rfl, rfl⟩
theorem WfN.facts {sg e : Int} {mn : Nat} (hw : WfN sg mn e) : (sg = 0 ∨ sg = 1) ∧ bl mn ≤ 90 ∧ -2000 ≤ e ∧ e ≤ 2000 ∧ ((mn : Int) = 0 → e = 0) ∧ (mn ≠ 0 → mn % 2 = 1) ∧ (mn = 0 → sg = 0) := by
  rcases hw with ⟨rfl, rfl, rfl⟩ | ⟨h1, h2, h3, h4, h5⟩
  · exact ⟨.inl rfl, by decide, by decide, by decide, fun _ => rfl, fun h => absurd rfl h, fun _ => rfl⟩
  · exact ⟨h2, h3, h4, h5, fun h => by omega, fun _ => h1, fun h => by omega⟩
theorem bl_up {m : Nat} {e : Int} {k : Nat} (h : bl m ≤ k) (he : e ≤ 2000) : bl (up m e) ≤ k + 2000 := by
  refine bl_le.mpr ?_
  rw [Nat.pow_add]
  exact Nat.mul_lt_mul_of_lt_of_le (bl_le.mp h) (Nat.pow_le_pow_right (by decide) (by omega)) (Nat.two_pow_pos _)
theorem bl_pow {k : Nat} : bl (2 ^ k) = k + 1 := bl_eq (Nat.le_refl _) (Nat.pow_lt_pow_right (by decide) (by omega))
section
variable {s t : Int} {ms mt : Nat}
theorem ra1 : up (up ms s * up mt t) (-(s + t)) = ms * mt * up (2 ^ (-s).toNat * 2 ^ (-t).toNat) (s + t) := by
  unfold up
  rw [show ms * 2 ^ s.toNat * (mt * 2 ^ t.toNat) = ms * mt * 2 ^ (s.toNat + t.toNat) by rw [Nat.pow_add]; simp only [Nat.mul_assoc, Nat.mul_left_comm, Nat.mul_comm]]
  simp only [Nat.mul_assoc, ← Nat.pow_add]
  congr 3
  omega
theorem ra3 (a : Nat) : up (up ms s * a) (-s) = ms * a * up (2 ^ (-s).toNat) s := by
  unfold up
  rw [show ms * 2 ^ s.toNat * a = ms * a * 2 ^ s.toNat by rw [Nat.mul_right_comm]]
  simp only [Nat.mul_assoc, ← Nat.pow_add]
  congr 3
  omega
theorem ra4 : up (up ms s * 2 ^ (-t).toNat) (-(s - t)) * mt = ms * up (2 ^ (-s).toNat * up mt t) (s - t) := by
  unfold up
  rw [show 2 ^ (-s).toNat * (mt * 2 ^ t.toNat) * 2 ^ (s - t).toNat = mt * (2 ^ (-s).toNat * 2 ^ t.toNat * 2 ^ (s - t).toNat) by simp only [Nat.mul_assoc, Nat.mul_left_comm, Nat.mul_comm]]
  rw [Nat.mul_comm _ mt, ← Nat.mul_assoc ms mt, Nat.mul_comm ms mt]
  simp only [Nat.mul_assoc, ← Nat.pow_add]
  congr 3
  omega
theorem ra5 (a : Nat) : up (a * 2 ^ (-t).toNat) (-(-t)) * mt = a * up (up mt t) (-t) := by
  unfold up
  rw [Nat.mul_comm _ mt, ← Nat.mul_assoc a, ← Nat.mul_assoc a, Nat.mul_comm a mt]
  simp only [Nat.mul_assoc, ← Nat.pow_add]
  congr 3
  omega
end
theorem exact_NZ {md : Md} {sg : Int} {m p : Nat} {e : Int} (ho : m % 2 = 1) (h : bl m ≤ p) : cm (NZ md sg m e p).1 = m ∧ (can (NZ md sg m e p)).2 = e := by
  unfold NZ
  rw [if_pos h]
  have z : v2 m = 0 := v2_odd ho
  exact ⟨by rw [cm, z, Nat.pow_zero, Nat.div_one], by simp only [z]; omega⟩
end Mine
end
section
open PySem PySem.W PySem.Spec PySem.Calls PyProof.Rows
set_option maxHeartbeats 1000000
namespace Mine
local macro_rules | `(tactic| walk_at "execs cons") => `(tactic| k_extra "execs cons")
local macro_rules | `(tactic| walk_at "call ref") => `(tactic| k_extra "call ref")
local macro_rules | `(tactic| walk_at "isTrue Subscript") => `(tactic| k_extra "isTrue Subscript")
local macro_rules | `(tactic| walk_at "eval Call") => `(tactic| (k_here; (with_reducible show wpAny _ _ (eval (Expr.Call (Expr.Name _ _) _ [] _) _) _ _ _); k_dflt (refine Call_ ?_)))
local macro_rules | `(tactic| walk_at "ite") => `(tactic| (k_here; (try dsimp only); first
  | ((with_reducible show (if (_ != (0 : Int)) = true then _ else _)); (refine ite_ne0 (fun hC => ?_) (fun hC => ?_)) <;> first | (exfalso; omega) | skip)
  | ((with_reducible show (if (decide _) = true then _ else _)); (refine ite_dec (fun hC => ?_) (fun hC => ?_)) <;> first | (exfalso; omega) | skip)
  | ((with_reducible show (if ((_ : Int) == _) = true then _ else _)); (refine ite_beq (fun hC => ?_) (fun hC => ?_)) <;> first | (exfalso; omega) | skip)))
local macro_rules | `(tactic| walk_at "binaryOp RShift int int") => `(tactic| (k_here; (with_reducible refine rshift_int ?hn ?_); (case hn => omega)))
local macro_rules | `(tactic| walk_at "inplaceOp RShift int int") => `(tactic| (k_here; (with_reducible refine irshift_int ?hn ?_); (case hn => omega)))
local macro_rules | `(tactic| ktr_call $x $c) => `(tactic| ((refine' CI.use $x ?k1 ?k2 ?k3 ?k4 ?k5 ?kK ?kd ?ku ?kR); (case k1 => k_asm); (case k2 => k_asm); (case k3 => k_asm); (case k4 => k_asm); (case k5 => k_asm); (case kK => first | exact rfl | assumption); (case kd => ktr_room); (case ku => ktr_units); (case' kR => (intro t9 h9 tk9 F9 N9; (try dsimp only); (try k_fold)))))
local macro_rules | `(tactic| ktn_call $x $c) => `(tactic| ((refine' CT.use $x ?k1 ?k2 ?k3 ?k4 ?k5 ?kK ?kd ?ku ?kR); (case k1 => k_asm); (case k2 => k_asm); (case k3 => k_asm); (case k4 => k_asm); (case k5 => k_asm); (case kK => first | exact rfl | assumption); (case kd => ktr_room); (case ku => ktr_units); (case' kR => (intro D9 u1 u2 u3 u4 k9 h9 tk9 F9 N9 l9; (try k_lt l9); (try dsimp only); (try k_fold)))))
local macro_rules | `(tactic| ktr_call $x $c) => `(tactic| ((refine' CF.use $x ?k1 ?k2 ?k3 ?k4 ?k5 ?kK ?kd ?ku ?kR); (case k1 => k_asm); (case k2 => k_asm); (case k3 => k_asm); (case k4 => k_asm); (case k5 => k_asm); (case kK => first | exact rfl | assumption); (case kd => ktr_room); (case ku => ktr_units); (case' kR => (intro h9 tk9 F9 N9; (try dsimp only); (try k_fold)))))
local macro_rules | `(tactic| cell_enter) => `(tactic| (refine' code_def ?k1 ?k2 ?k3 ?k4 ?k5 ?kA ?kF ?kK ?k6 ?k7 ?k8 ?k9 ?kB ?_ ?c2 ?c3 ?c4 ?c5; (case kA => exact rfl); (case kF => exact rfl); (case kK => first | exact rfl | assumption); (case k1 => k_asm); (case k2 => k_asm); (case k3 => k_asm); (case k4 => k_asm); (case k5 => k_asm); (case k6 => k_is); (case k7 => k_is); (case k8 => ktr_room); (case k9 => first | exact BindsTo.of_eq rfl | exact binds_K (by k_in) rfl (by k_is) rfl rfl rfl); (case c5 => decide); (case kB => exact locs rfl); (case c2 => exact rfl); (case c3 => exact rfl); (case c4 => exact rfl); k_whole; intro g' L' h' FG' F' N' B' X' T'; (try dsimp only); (try k_lift B'); (try k_fold)))
local macro_rules | `(tactic| walk_at "binaryOp LShift int int") => `(tactic| (k_here; first
  | ((with_reducible refine lshift_int_small ?ha ?hb ?hc ?_); (case ha => omega); (case hb => omega); (case hc => decide))
  | ((with_reducible refine lshift_int ?ha ?hb ?_); (case ha => omega); (case hb => omega))))
local macro_rules | `(tactic| walk_at "call builtin:divmod") => `(tactic| (k_here; (with_reducible show wpAny _ _ (call (Value.builtin _) [Value.int _ _, Value.int _ _]) _ _ _); refine divmod_N (by assumption) (by assumption) (by omega) ?_ (Or.inl (PyProof.noPylong_of_log2 (by assumption))); intro _ _ _))
local macro_rules | `(tactic| ked_read) => `(tactic| first | exact read4N (by k_asm) (by k_mem) | exact read4K (by k_in) (by k_is) rfl)
local macro_rules | `(tactic| walk_at "compareOp Eq ref ref") => `(tactic| (k_here; (with_reducible show wpAny _ _ (compareOp CmpOp.Eq (Value.ref _) (Value.ref _)) _ _ _); k_dflt ((refine' eq4 ?hX ?hY ?hu ?_); (case hX => ked_read); (case hY => ked_read); (case hu => ktr_units))))
local macro_rules | `(tactic| ktn_call $x $c) => `(tactic| ((refine' C2.use $x ?k1 ?k2 ?k3 ?k4 ?k5 ?kK ?kd ?ku ?kR); (case k1 => k_asm); (case k2 => k_asm); (case k3 => k_asm); (case k4 => k_asm); (case k5 => k_asm); (case kK => first | exact rfl | assumption); (case kd => ktr_room); (case ku => ktr_units); (case' kR => (intro D9 u1 u2 k9 h9 tk9 F9 N9 l9; (try k_lt l9); (try dsimp only); (try k_fold)))))
local macro_rules | `(tactic| walk_at "binaryOp Pow int int") => `(tactic| (k_here; (with_reducible refine pow2 ?ha ?hb ?_); (case ha => omega); (case hb => omega)))
abbrev WA (sg : Int) (mn : Nat) (e : Int) : Int := (if sg = 1 then -(mn : Int) else mn) * 2 ^ e.toNat
abbrev WB (e : Int) : Int := 2 ^ (-e).toNat
theorem bits_le_iff {x : Int} {k : Nat} : Builtin.Int.intBits x ≤ k ↔ bl x.natAbs ≤ k := by rw [(bits_abs x).1]
theorem WA_bits {sg e : Int} {mn : Nat} (hw : WfN sg mn e) : Builtin.Int.intBits (WA sg mn e) ≤ 2100 := by
  obtain ⟨hs, hb, he1, he2, _⟩ := hw.facts
  have h1 : Builtin.Int.intBits (if sg = 1 then -(mn : Int) else mn) ≤ 90 := by
    refine bits_le_iff.mpr ?_
    rw [show (if sg = 1 then -(mn : Int) else mn).natAbs = mn by split <;> omega]
    exact hb
  exact Nat.le_trans (PySem.intBits_mul_le h1 (Nat.le_trans (bits_pow2 e.toNat) (by omega : e.toNat + 1 ≤ 2001))) (by decide)
theorem WB_bits {sg e : Int} {mn : Nat} (hw : WfN sg mn e) : Builtin.Int.intBits (WB e) ≤ 2100 := by
  obtain ⟨hs, hb, he1, he2, _⟩ := hw.facts
  exact Nat.le_trans (bits_pow2 _) (by omega)
theorem pq_bits {x : Int} (h : -(10 ^ 39) ≤ x) (h' : x ≤ 2 * 10 ^ 39) : Builtin.Int.intBits x ≤ 200 ∧ bl x.natAbs ≤ 200 := by
  have : bl x.natAbs ≤ 200 := bl_le.mpr (by omega)
  exact ⟨bits_le_iff.mpr this, this⟩
theorem bl_mul_le' {a b x y : Nat} (h1 : bl a ≤ x) (h2 : bl b ≤ y) : bl (a * b) ≤ x + y := Nat.le_trans bl_mul_le (Nat.add_le_add h1 h2)
theorem bl_pow_le {k x : Nat} (h : k ≤ x) : bl (2 ^ k) ≤ x + 1 := by rw [bl_pow]; omega
theorem xor_comm' {a b : Int} (ha : a = 0 ∨ a = 1) (hb : b = 0 ∨ b = 1) : Builtin.bitXor b a = Builtin.bitXor a b := by
  rcases ha with rfl | rfl <;> rcases hb with rfl | rfl <;> decide
section
variable {sgs sgt ses set' : Int} {sms smt : Nat}
theorem cmp1 (hws : WfN sgs sms ses) (hwt : WfN sgt smt set') (h0 : sms ≠ 0) (h0' : smt ≠ 0) :
    WA sgs sms ses * WA sgt smt set' ≠ 0 ∧ (WA sgs sms ses * WA sgt smt set').natAbs = up sms ses * up smt set' ∧ WB ses * WB set' = ((2 ^ (-ses).toNat * 2 ^ (-set').toNat : Nat) : Int) ∧
    0 < 2 ^ (-ses).toNat * 2 ^ (-set').toNat ∧ bl (up sms ses * up smt set') ≤ 6000 ∧ bl (2 ^ (-ses).toNat * 2 ^ (-set').toNat) ≤ 6000 ∧
    (∀ (md : Md) (p : Nat), 0 < p → Builtin.bitXor sgs sgt = (if WA sgs sms ses * WA sgt smt set' < 0 then 1 else 0) ∧
      ((cm (NZ md (Builtin.bitXor sgs sgt) (sms * smt) (ses + set') p).1 : Nat) : Int) = ((can (LR md (if WA sgs sms ses * WA sgt smt set' < 0 then 1 else 0) (up sms ses * up smt set') (2 ^ (-ses).toNat * 2 ^ (-set').toNat) p)).1 : Nat) ∧
      (can (NZ md (Builtin.bitXor sgs sgt) (sms * smt) (ses + set') p)).2 = (can (LR md (if WA sgs sms ses * WA sgt smt set' < 0 then 1 else 0) (up sms ses * up smt set') (2 ^ (-ses).toNat * 2 ^ (-set').toNat) p)).2 ∧
      ((bl (cm (NZ md (Builtin.bitXor sgs sgt) (sms * smt) (ses + set') p).1) : Nat) : Int) = (bl (can (LR md (if WA sgs sms ses * WA sgt smt set' < 0 then 1 else 0) (up sms ses * up smt set') (2 ^ (-ses).toNat * 2 ^ (-set').toNat) p)).1 : Nat)) ∧
    (∀ md : Md, Builtin.bitXor sgt sgs = (if WA sgs sms ses * WA sgt smt set' < 0 then 1 else 0) ∧
      ((smt * sms : Nat) : Int) = ((can (LR md (if WA sgs sms ses * WA sgt smt set' < 0 then 1 else 0) (up sms ses * up smt set') (2 ^ (-ses).toNat * 2 ^ (-set').toNat) 200)).1 : Nat) ∧
      set' + ses = (can (LR md (if WA sgs sms ses * WA sgt smt set' < 0 then 1 else 0) (up sms ses * up smt set') (2 ^ (-ses).toNat * 2 ^ (-set').toNat) 200)).2 ∧
      ((bl (smt * sms) : Nat) : Int) = (bl (can (LR md (if WA sgs sms ses * WA sgt smt set' < 0 then 1 else 0) (up sms ses * up smt set') (2 ^ (-ses).toNat * 2 ^ (-set').toNat) 200)).1 : Nat)) := by
  obtain ⟨a1, a2, a3, a4, _, a6, _⟩ := hws.facts
  obtain ⟨b1, b2, b3, b4, _, b6, _⟩ := hwt.facts
  have hm := (SM.worth hws h0).mul (SM.worth hwt h0')
  obtain ⟨m1, m2, m3, _⟩ := hm.ne
  have hD : 0 < 2 ^ (-ses).toNat * 2 ^ (-set').toNat := Nat.mul_pos (Nat.two_pow_pos _) (Nat.two_pow_pos _)
  have hmm : 0 < sms * smt := Nat.mul_pos (by omega) (by omega)
  refine ⟨m1, m2, by rw [Int.natCast_mul, ← cast_pow, ← cast_pow], hD, ?_, ?_, fun md p hp => NE m3 (NZ_LR hm.1 hD hmm hp ra1), fun md => ?_⟩
  · exact Nat.le_trans (bl_mul_le' (bl_up a2 a4) (bl_up b2 b4)) (by decide)
  · exact Nat.le_trans (bl_mul_le' (bl_pow_le (x := 2000) (by omega)) (bl_pow_le (x := 2000) (by omega))) (by decide)
  · have ho : sms * smt % 2 = 1 := by rw [Nat.mul_mod, a6 h0, b6 h0']
    have hb : bl (sms * smt) ≤ 200 := Nat.le_trans (bl_mul_le' a2 b2) (by decide)
    obtain ⟨e1, e2⟩ := exact_NZ (md := md) (sg := Builtin.bitXor sgs sgt) (e := ses + set') ho hb
    obtain ⟨n1, n2, n3, n4⟩ := NE (md := md) m3 (NZ_LR (md := md) (sg := Builtin.bitXor sgs sgt) (p := 200) hm.1 hD hmm (by decide) ra1)
    rw [e1] at n2 n4
    rw [e2] at n3
    rw [Nat.mul_comm smt sms, Int.add_comm set' ses, xor_comm' a1 b1]
    exact ⟨n1, n2, n3, n4⟩
theorem cmp3 {x : Int} (hws : WfN sgs sms ses) (h0 : sms ≠ 0) (hx : x ≠ 0) (hb : bl x.natAbs ≤ 200) :
    WA sgs sms ses * x ≠ 0 ∧ (WA sgs sms ses * x).natAbs = up sms ses * x.natAbs ∧ WB ses = ((2 ^ (-ses).toNat : Nat) : Int) ∧
    0 < 2 ^ (-ses).toNat ∧ bl (up sms ses * x.natAbs) ≤ 6000 ∧ bl (2 ^ (-ses).toNat) ≤ 6000 ∧
    (∀ (md : Md) (p : Nat), 0 < p → Builtin.bitXor sgs (if x < 0 then 1 else 0) = (if WA sgs sms ses * x < 0 then 1 else 0) ∧
      ((cm (NZ md (Builtin.bitXor sgs (if x < 0 then 1 else 0)) (sms * x.natAbs) ses p).1 : Nat) : Int) = ((can (LR md (if WA sgs sms ses * x < 0 then 1 else 0) (up sms ses * x.natAbs) (2 ^ (-ses).toNat) p)).1 : Nat) ∧
      (can (NZ md (Builtin.bitXor sgs (if x < 0 then 1 else 0)) (sms * x.natAbs) ses p)).2 = (can (LR md (if WA sgs sms ses * x < 0 then 1 else 0) (up sms ses * x.natAbs) (2 ^ (-ses).toNat) p)).2 ∧
      ((bl (cm (NZ md (Builtin.bitXor sgs (if x < 0 then 1 else 0)) (sms * x.natAbs) ses p).1) : Nat) : Int) = (bl (can (LR md (if WA sgs sms ses * x < 0 then 1 else 0) (up sms ses * x.natAbs) (2 ^ (-ses).toNat) p)).1 : Nat)) := by
  obtain ⟨a1, a2, a3, a4, _, a6, _⟩ := hws.facts
  have hm := (SM.worth hws h0).mul (SM.int hx)
  obtain ⟨m1, m2, m3, _⟩ := hm.ne
  have hmm : 0 < sms * x.natAbs := Nat.mul_pos (by omega) (by omega)
  refine ⟨m1, m2, cast_pow _, Nat.two_pow_pos _, ?_, ?_, fun md p hp => NE m3 (NZ_LR hm.1 (Nat.two_pow_pos _) hmm hp (ra3 _))⟩
  · exact Nat.le_trans (bl_mul_le' (bl_up a2 a4) hb) (by decide)
  · exact Nat.le_trans (bl_pow_le (x := 2000) (by omega)) (by decide)
theorem cmp4 (hws : WfN sgs sms ses) (hwt : WfN sgt smt set') (h0 : sms ≠ 0) (h0' : smt ≠ 0) :
    WA sgs sms ses * WB set' ≠ 0 ∧ (WA sgs sms ses * WB set').natAbs = up sms ses * 2 ^ (-set').toNat ∧ WB ses * WA sgt smt set' ≠ 0 ∧ (WB ses * WA sgt smt set').natAbs = 2 ^ (-ses).toNat * up smt set' ∧
    0 < up sms ses * 2 ^ (-set').toNat ∧ 0 < 2 ^ (-ses).toNat * up smt set' ∧ bl (up sms ses * 2 ^ (-set').toNat) ≤ 6000 ∧ bl (2 ^ (-ses).toNat * up smt set') ≤ 6000 ∧
    up (up sms ses * 2 ^ (-set').toNat) (-(ses - set')) * smt = sms * up (2 ^ (-ses).toNat * up smt set') (ses - set') ∧ Builtin.bitXor sgs sgt = sgq (WA sgs sms ses * WB set') (WB ses * WA sgt smt set') := by
  obtain ⟨a1, a2, a3, a4, _, a6, _⟩ := hws.facts
  obtain ⟨b1, b2, b3, b4, _, b6, _⟩ := hwt.facts
  have hn := (SM.worth hws h0).mul (SM.pow (-set').toNat)
  have hd := (SM.pow (-ses).toNat).mul (SM.worth hwt h0')
  rw [bitXor_zero] at hn
  rw [show Builtin.bitXor 0 sgt = sgt by rcases b1 with rfl | rfl <;> decide] at hd
  obtain ⟨m1, m2, m3, _⟩ := hn.ne
  obtain ⟨n1, n2, n3, _⟩ := hd.ne
  refine ⟨m1, m2, n1, n2, hn.1, hd.1, ?_, ?_, ra4, hn.sgq hd⟩
  · exact Nat.le_trans (bl_mul_le' (bl_up a2 a4) (bl_pow_le (x := 2000) (by omega))) (by decide)
  · exact Nat.le_trans (bl_mul_le' (bl_pow_le (x := 2000) (by omega)) (bl_up b2 b4)) (by decide)
theorem cmp5 {x : Int} (hwt : WfN sgt smt set') (h0' : smt ≠ 0) (hx : x ≠ 0) (hb : bl x.natAbs ≤ 200) :
    x * WB set' ≠ 0 ∧ (x * WB set').natAbs = x.natAbs * 2 ^ (-set').toNat ∧ WA sgt smt set' ≠ 0 ∧ (WA sgt smt set').natAbs = up smt set' ∧
    0 < x.natAbs * 2 ^ (-set').toNat ∧ 0 < up smt set' ∧ bl (x.natAbs * 2 ^ (-set').toNat) ≤ 6000 ∧ bl (up smt set') ≤ 6000 ∧
    up (x.natAbs * 2 ^ (-set').toNat) (-(-set')) * smt = x.natAbs * up (up smt set') (-set') ∧ Builtin.bitXor sgt (if x < 0 then 1 else 0) = sgq (x * WB set') (WA sgt smt set') := by
  obtain ⟨b1, b2, b3, b4, _, b6, _⟩ := hwt.facts
  have hn := (SM.int hx).mul (SM.pow (-set').toNat)
  have hd := SM.worth hwt h0'
  rw [bitXor_zero] at hn
  obtain ⟨m1, m2, m3, _⟩ := hn.ne
  obtain ⟨n1, n2, n3, _⟩ := hd.ne
  refine ⟨m1, m2, n1, n2, hn.1, hd.1, ?_, ?_, ra5 _, ?_⟩
  · exact Nat.le_trans (bl_mul_le' hb (bl_pow_le (x := 2000) (by omega))) (by decide)
  · exact Nat.le_trans (bl_up b2 b4) (by decide)
  · rw [← hn.sgq hd]
    exact xor_comm' (sgn_bit x) b1
theorem cmp6 {x y : Int} (hx : x ≠ 0) (hy : y ≠ 0) : Builtin.bitXor (if x < 0 then 1 else 0) (if y < 0 then 1 else 0) = sgq x y := (SM.int hx).sgq (SM.int hy)
theorem WA_zero {sg e : Int} {mn : Nat} (h : mn = 0) : WA sg mn e = 0 := by
  subst h
  show (if sg = 1 then -((0 : Nat) : Int) else ((0 : Nat) : Int)) * _ = 0
  split <;> simp
end
theorem WfN.zero {sg e : Int} {mn : Nat} (hw : WfN sg mn e) (h : mn = 0) : mn = 0 ∧ sg = 0 ∧ e = 0 := by
  rcases hw with h' | ⟨h1, _⟩
  · exact h'
  · omega
end Mine
end
section
open PySem PySem.W PySem.Spec PySem.Calls PyProof.Rows
set_option maxHeartbeats 800000
namespace Mine
/-- a value by what holds of it: the ways of its reckoning meet -/
def EvEnd {σ : Type} (h₀ : Heap) (L : Addr) (m : Str → Option Value) (V : σ → Value) (P : σ → Prop) (news : List (Addr × Obj)) (s : Shared) (v : Value) (s' : Shared) : Prop :=
  ∃ c h tk, v = V c ∧ s' = { s with heap := h, toks := tk } ∧ Fr h₀ L h m ∧ News h₀ L h news ∧ P c
theorem EvEnd.intro {σ : Type} {h₀ : Heap} {L : Addr} {m : Str → Option Value} {V : σ → Value} {P : σ → Prop} {news news' : List (Addr × Obj)} {s : Shared} {v : Value} {h : Heap} {tk : Nat} (c : σ) (e : v = V c)
    (F : Fr h₀ L h m) (N : News h₀ L h news') (hs : ∀ p ∈ news, p ∈ news') (hP : P c) : EvEnd h₀ L m V P news s v { s with heap := h, toks := tk } := ⟨c, h, tk, e, rfl, F, fun p hp => N p (hs p hp), hP⟩
theorem eval_cut {σ : Type} {M : Model} {A : Around} {E : Value → Shared → Prop} {s : Shared} {h₀ : Heap} {L : Addr} {m : Str → Option Value} {news : List (Addr × Obj)} {t : Sem Value} {Q : Value → Shared → Prop} (V : σ → Value) (P : σ → Prop)
    (_F : Fr h₀ L s.heap m) (_N : News h₀ L s.heap news) (h1 : wpAny M A t (EvEnd h₀ L m V P news s) E s)
    (h2 : ∀ c h tk, P c → Fr h₀ L h m → News h₀ L h news → Q (V c) { s with heap := h, toks := tk }) : wpAny M A t Q E s := by
  refine wpAny_mono h1 (fun v s' q => ?_) fun _ _ x => x
  obtain ⟨c, h, tk, rfl, rfl, F, N, hP⟩ := q
  exact h2 c h tk hP F N
def BEnd (h₀ : Heap) (L : Addr) (m : Str → Option Value) (b : Bool) (news : List (Addr × Obj)) (s : Shared) (v : Bool) (s' : Shared) : Prop :=
  ∃ h tk, v = b ∧ s' = { s with heap := h, toks := tk } ∧ Fr h₀ L h m ∧ News h₀ L h news
theorem BEnd.intro {h₀ : Heap} {L : Addr} {m : Str → Option Value} {b : Bool} {news news' : List (Addr × Obj)} {s : Shared} {v : Bool} {h : Heap} {tk : Nat} (e : v = b)
    (F : Fr h₀ L h m) (N : News h₀ L h news') (hs : ∀ p ∈ news, p ∈ news') : BEnd h₀ L m b news s v { s with heap := h, toks := tk } := ⟨h, tk, e, rfl, F, fun p hp => N p (hs p hp)⟩
theorem test_cut {M : Model} {A : Around} {E : Value → Shared → Prop} {s : Shared} {h₀ : Heap} {L : Addr} {m : Str → Option Value} {news : List (Addr × Obj)} {t : Sem Bool} {Q : Bool → Shared → Prop} (b : Bool)
    (_F : Fr h₀ L s.heap m) (_N : News h₀ L s.heap news) (h1 : wpAny M A t (BEnd h₀ L m b news s) E s)
    (h2 : ∀ h tk, Fr h₀ L h m → News h₀ L h news → Q b { s with heap := h, toks := tk }) : wpAny M A t Q E s := by
  refine wpAny_mono h1 (fun v s' q => ?_) fun _ _ x => x
  obtain ⟨h, tk, rfl, rfl, F, N⟩ := q
  exact h2 h tk F N
section
variable {prog : Program} {w : World} {A : Around} {E : Value → Shared → Prop} {s : Shared} {a b n : Int} {t u : Tok} {Q : Value → Shared → Prop}
theorem ten_pow_le (k : Nat) (h : k ≤ 39) : (1 : Int) ≤ 10 ^ k ∧ (10 : Int) ^ k ≤ 10 ^ 39 := by
  have e : ∀ j : Nat, (10 : Int) ^ j = ((10 ^ j : Nat) : Int) := fun j => by simp
  rw [e, e]
  have h1 : 0 < 10 ^ k := Nat.pow_pos (by decide)
  have h2 : 10 ^ k ≤ 10 ^ 39 := Nat.pow_le_pow_right (by decide) h
  omega
theorem pow10_gen (hn : 0 ≤ n) (h2 : n < 40) (h : ∀ x : Int, 1 ≤ x → x ≤ 10 ^ 39 → x = 10 ^ n.toNat → Q (.int x s.toks) { s with toks := s.toks + 1 }) : wpAny (model prog w) A (binaryOp .Pow (.int 10 t) (.int n u)) Q E s := by
  obtain ⟨h1, h2'⟩ := ten_pow_le n.toNat (by omega)
  exact pow10 hn (by omega) (h _ h1 h2' rfl)
end
end Mine
namespace Mine
section
variable {h₀ : Heap} {L : Addr} {m : Str → Option Value} {news news' : List (Addr × Obj)} {s : Shared} {h : Heap} {tk : Nat} {t : Tok} {x : Int}
theorem EvEnd.nat (F : Fr h₀ L h m) (N : News h₀ L h news') (hs : ∀ p ∈ news, p ∈ news') (h0 : 0 < x) (h1 : x ≤ 100) :
    EvEnd h₀ L m (fun c : Nat × Tok => Value.int (c.1 : Int) c.2) (fun c => 0 < c.1 ∧ c.1 ≤ 100) news s (.int x t) { s with heap := h, toks := tk } := by
  refine EvEnd.intro (x.toNat, t) ?_ F N hs ⟨by dsimp only; omega, by dsimp only; omega⟩
  dsimp only
  rw [show ((x.toNat : Nat) : Int) = x by omega]
theorem EvEnd.int (F : Fr h₀ L h m) (N : News h₀ L h news') (hs : ∀ p ∈ news, p ∈ news') (h0 : -(10 ^ 39) ≤ x) (h1 : x ≤ 10 ^ 39) :
    EvEnd h₀ L m (fun c : Int × Tok => Value.int c.1 c.2) (fun c => -(10 ^ 39) ≤ c.1 ∧ c.1 ≤ 10 ^ 39) news s (.int x t) { s with heap := h, toks := tk } := EvEnd.intro (x, t) rfl F N hs ⟨h0, h1⟩
theorem EvEnd.int2 {r x y : Int} (F : Fr h₀ L h m) (N : News h₀ L h news') (hs : ∀ p ∈ news, p ∈ news') (h0 : 0 ≤ r) (h1 : r < 2 * y + 1) (hy : y ≤ 10 ^ 39) (hx1 : 1 ≤ x) (hx2 : x ≤ 10 ^ 39) :
    EvEnd h₀ L m (fun c : Int × Tok => Value.int c.1 c.2) (fun c => -(10 ^ 39) ≤ c.1 ∧ c.1 ≤ 2 * 10 ^ 39) news s (.int (r - x) t) { s with heap := h, toks := tk } := EvEnd.intro (r - x, t) rfl F N hs ⟨by dsimp only; omega, by dsimp only; omega⟩
theorem EvEnd.md (md : Md) (F : Fr h₀ L h m) (N : News h₀ L h news') (hs : ∀ p ∈ news, p ∈ news') {S : Str} (e : S = md.str) :
    EvEnd h₀ L m (fun c : Md × Tok => Value.str c.1.str c.2) (fun _ => True) news s (.str S t) { s with heap := h, toks := tk } := by
  subst e
  exact EvEnd.intro (md, t) rfl F N hs True.intro
end
end Mine
namespace Mine
theorem ndec {P : Prop} {i : Decidable P} (h : P) : (!@decide P i) = false := by simp [h]
theorem read4F {X L : Addr} {a b c d : Int} {h₀ h : Heap} {m : Str → Option Value} {K : Frag} {l : List Value} {dd : Option Addr} {sl : Array (Option Value)} {n : Nat} {t1 t2 t3 t4 : Tok} (F : Fr h₀ L h m) (x : K.In h₀) (hl : K.lookup X = some ⟨.type "tuple", dd, .seq l.toArray n, sl⟩) (e : l = [.int a t1, .int b t2, .int c t3, .int d t4]) : Reads h (.ref X) (dat4 a b c d) [] := by
  subst e
  exact reads_tuple_at (F.keep _ _ (x _ _ hl)) rfl rfl all4
end Mine
namespace Mine
theorem con_div0g (w : World) {S T : Addr} {ss sm se sb ts te tm : Int} {prec tb : Int} {k1 k2 : Nat} {s1 s2 s3 s4 u1 u2 u3 u4 t1 t2 : Tok} (md : Md) (ht : 0 < tm) (e1 : ss = 0) (e2 : sm = 0) (e3 : se = 0) (e4 : sb = 0) (news : List (Addr × Obj))
    (hS : (S, tup4 ss sm se sb s1 s2 s3 s4 k1) ∈ news) (hT : (T, tup4 ts tm te tb u1 u2 u3 u4 k2) ∈ news) :
    CF w 99 12 [.ref S, .ref T, .int prec t1, .str md.str t2] news 22 := by
  subst e1 e2 e3 e4
  exact con_div0 w md ht news hS hT
end Mine
end
section
open PySem PySem.W PySem.Spec PySem.Calls PyProof.Rows
set_option maxHeartbeats 800000
namespace Mine
theorem refused (w : World) {S : Addr} {k sg sm e sb : Int} {num prec : Int} {k1 : Nat} {s1 s2 s3 s4 t0 t1 t2 t3 : Tok} (md : Md) (hz : sm ≠ 0 ∨ (sg = 0 ∧ sm = 0 ∧ e = 0 ∧ sb = 0)) (hk : k = 0 ∨ k = 1 ∨ k = 2) (news : List (Addr × Obj)) (hS : (S, tup4 sg sm e sb s1 s2 s3 s4 k1) ∈ news) :
    Call0 w 149 40 [.int k t0, .ref S, .int num t1, .int prec t2, .str md.str t3] news := by
  rcases hk with rfl | rfl | rfl
  · exact refused_div w md hz news hS
  · by_cases h : num = 0
    · subst h
      exact refused_rdiv0 w md news
    · exact refused_rdiv w md h news
  · by_cases h : num = 0
    · subst h
      exact refused_rat0 w md news
    · exact refused_rat w md h news
section
variable {w : World} {f : Addr} {n : Nat} {vs : List Value} {news : List (Addr × Obj)}
  {mean : ExcName → Option Value} {mg mb : Str → Option Value} {dp un : Nat} {gd : Option (List Code)} {cn : Str} {cs : Scope} {a : Addr} {ccd : Value} {cl : List (Str × Addr)} {A₀ : Around} {base h₀ : Heap} {L : Addr} {m : Str → Option Value} {s : Shared} {Q E : Value → Shared → Prop}
theorem Call0.use (c : Call0 w f n vs news) (XB : (hd.heap_39 w.params).In base) (TB : Top hd.view_39 LS mean mg mb base) (B : Below A₀ base [] h₀) (F : Fr h₀ L s.heap m) (X : (hd.heap_39 w.params).In h₀) (N : News h₀ L s.heap news) (T : Top hd.view_39 LS mean mg mb h₀) (hk : cs.kind = .function)
    (hd : dp + n < recursionLimit) (hu : un + 8 * n < cLine) (hr : RetB h₀ L m news s Q) :
    wpAny (model PySem.Challenge.pw_ah5003_01 w) (ktrTop dp un gd cn cs L a ccd cl []) (call (.ref f) vs) Q E s := c _ _ _ _ _ _ _ _ _ _ _ _ _ _ _ _ _ _ _ XB TB B F X N T hk hd hu hr
end
theorem WfN.case {sg e : Int} {mn : Nat} {b : Nat} (hw : WfN sg mn e) (hb : mn = 0 → b = 0) : (mn : Int) ≠ 0 ∨ (sg = 0 ∧ (mn : Int) = 0 ∧ e = 0 ∧ (b : Int) = 0) := by
  rcases hw with ⟨h1, h2, h3⟩ | ⟨h1, _⟩
  · right
    have := hb h1
    omega
  · left
    omega
theorem WfN.caseB {sg e : Int} {mn : Nat} (hw : WfN sg mn e) : (mn : Int) ≠ 0 ∨ (sg = 0 ∧ (mn : Int) = 0 ∧ e = 0 ∧ ((bl mn : Nat) : Int) = 0) := hw.case (b := bl mn) fun h => by rw [h]; rfl
/-- the end of a turn that gives back True and leaves the ledger -/
def TEnd (h₀ : Heap) (L : Addr) (m : Str → Option Value) (all : List (Addr × Obj)) (s : Shared) (v : Value) (s' : Shared) : Prop :=
  v = .bool true ∧ ∃ h tk, s' = { s with heap := h, toks := tk } ∧ Fr h₀ L h m ∧ News h₀ L h all
theorem TEnd.intro {h₀ : Heap} {L : Addr} {m : Str → Option Value} {all : List (Addr × Obj)} {s : Shared} {h : Heap} {tk : Nat} (F : Fr h₀ L h m) (N : News h₀ L h all) :
    TEnd h₀ L m all s (.bool true) { s with heap := h, toks := tk } := ⟨rfl, h, tk, rfl, F, N⟩
section
variable {prog : Program} {w : World} {A : Around} {h₀ : Heap} {L : Addr} {m : Str → Option Value} {env : Env} {elt : Expr} {x : Str} {scope : Scope} {cl : List (Str × Addr)} {s₁ : Shared} {Q : Value → Shared → Prop} {news : List (Addr × Obj)} {r : Addr} {t u v : Tok}
theorem comp3 (hh : A.handled = none) (F : Fr h₀ L s₁.heap m) (N : News h₀ L s₁.heap news) (hr : IsRange s₁.heap r 0 3 1 t u v)
    (turn : ∀ k t I oI C oC D m₂ ys h tk (E' : Value → Shared → Prop), (k = 0 ∨ k = 1 ∨ k = 2) → LCg.NsObj oC m₂ → m₂ x = some (.int k t) → Fr h₀ L h m → News h₀ L h ((I, oI) :: (C, oC) :: (D, LCg.lst ys) :: news) →
      wpAny (model prog w) A (eval elt (compEnvC scope cl C env)) (TEnd h₀ L m ((I, oI) :: (C, oC) :: (D, LCg.lst ys) :: news) { s₁ with heap := h, toks := tk }) E' { s₁ with heap := h, toks := tk })
    (fin : ∀ D h tk, Fr h₀ L h m → News h₀ L h ((D, LCg.lst [.bool true, .bool true, .bool true]) :: news) → Q (.ref D) { s₁ with heap := h, toks := tk }) :
    LCg.CompSrc prog w A h₀ L m env elt x scope cl (fun s₂ => LCg.FinE h₀ L m s₂ Q) (.ref r) s₁ := by
  refine LCg.CompSrc.range (n := 3) hh F N hr (by decide) (by decide) (by decide) fun g => ?_
  have step : ∀ (j i : Nat) (ys : List Value), i + j = 3 → ys = List.replicate i (.bool true) →
      LCg.CompRest prog w A h₀ L m env elt x scope cl { s₁ with heap := g } (fun _ => True) (fun i v => ∃ t, v = .int (0 + (i : Int)) t) (LCg.FinE h₀ L m { s₁ with heap := g } Q) j i ys news := by
    intro j
    induction j with
    | zero =>
      intro i ys hi hy
      have e : i = 3 := by omega
      subst e
      subst hy
      refine LCg.CompRest.zero ?_
      intro D h tk F' N' _
      exact fin D h tk F' N'
    | succ j ih =>
      intro i ys hi hy
      refine LCg.CompRest.succ ?_
      intro v I oI C oC D m₂ h tk E' hv hC hx F' N' off ne
      obtain ⟨t', hv'⟩ := hv
      rw [hv'] at hx
      refine wpAny_mono (turn (0 + (i : Int)) t' I oI C oC D m₂ ys h tk E' (by omega) hC hx F' N') (fun y s₂ hq => ?_) fun _ _ e => e
      obtain ⟨rfl, h', tk', rfl, F2, N2⟩ := hq
      refine ⟨h', tk', news, rfl, F2, N2, off, True.intro, ?_⟩
      refine ih (i + 1) _ (by omega) ?_
      rw [hy, List.replicate_succ']
  exact step 3 0 [] (by omega) rfl
end
section
variable {prog : Program} {w : World} {A : Around} {E : Value → Shared → Prop} {h₀ : Heap} {L : Addr} {s : Shared} {Q : Value → Shared → Prop} {news : List (Addr × Obj)} {value slice : Expr} {D : Addr} {a b c d : Int} {t1 t2 t3 t4 u : Tok} {k : Nat}
theorem sub2a (N : News h₀ L s.heap news) (hm : (D, tup2 a b t1 t2 k) ∈ news) (h : Q (.int a t1) s)
    (hs : subscripted slice false (.ref D) (.int 0 u) = operate [.ref D, .int 0 u] (getItem (.ref D) (.int 0 u)) := by with_unfolding_all rfl) :
    wpAny (model prog w) A (subscriptTail value slice (.ref D) (.int 0 u)) Q E s :=
  item_tupleT (l := [.int a t1, .int b t2]) (j := 0) (News.isTup N hm) (by decide) (by decide) rfl rfl h hs
theorem sub2b (N : News h₀ L s.heap news) (hm : (D, tup2 a b t1 t2 k) ∈ news) (h : Q (.int b t2) s)
    (hs : subscripted slice false (.ref D) (.int 1 u) = operate [.ref D, .int 1 u] (getItem (.ref D) (.int 1 u)) := by with_unfolding_all rfl) :
    wpAny (model prog w) A (subscriptTail value slice (.ref D) (.int 1 u)) Q E s :=
  item_tupleT (l := [.int a t1, .int b t2]) (j := 1) (News.isTup N hm) (by decide) (by decide) rfl rfl h hs
theorem sub4b (N : News h₀ L s.heap news) (hm : (D, tup4 a b c d t1 t2 t3 t4 k) ∈ news) (h : Q (.int b t2) s)
    (hs : subscripted slice false (.ref D) (.int 1 u) = operate [.ref D, .int 1 u] (getItem (.ref D) (.int 1 u)) := by with_unfolding_all rfl) :
    wpAny (model prog w) A (subscriptTail value slice (.ref D) (.int 1 u)) Q E s :=
  item_tupleT (l := [.int a t1, .int b t2, .int c t3, .int d t4]) (j := 1) (News.isTup N hm) (by decide) (by decide) rfl rfl h hs
end
end Mine
end
section
open PySem PySem.W PySem.Spec PySem.Calls PyProof.Rows
set_option maxHeartbeats 1000000
namespace Mine
local macro_rules | `(tactic| walk_at "execs cons") => `(tactic| k_extra "execs cons")
local macro_rules | `(tactic| walk_at "call ref") => `(tactic| k_extra "call ref")
local macro_rules | `(tactic| walk_at "isTrue Subscript") => `(tactic| k_extra "isTrue Subscript")
local macro_rules | `(tactic| walk_at "eval Call") => `(tactic| (k_here; (with_reducible show wpAny _ _ (eval (Expr.Call (Expr.Name _ _) _ [] _) _) _ _ _); k_dflt (refine Call_ ?_)))
local macro_rules | `(tactic| walk_at "ite") => `(tactic| (k_here; (try dsimp only); first
  | ((with_reducible show (if (_ != (0 : Int)) = true then _ else _)); (refine ite_ne0 (fun hC => ?_) (fun hC => ?_)) <;> first | (exfalso; omega) | skip)
  | ((with_reducible show (if (decide _) = true then _ else _)); (refine ite_dec (fun hC => ?_) (fun hC => ?_)) <;> first | (exfalso; omega) | skip)
  | ((with_reducible show (if ((_ : Int) == _) = true then _ else _)); (refine ite_beq (fun hC => ?_) (fun hC => ?_)) <;> first | (exfalso; omega) | skip)))
local macro_rules | `(tactic| walk_at "binaryOp RShift int int") => `(tactic| (k_here; (with_reducible refine rshift_int ?hn ?_); (case hn => omega)))
local macro_rules | `(tactic| walk_at "inplaceOp RShift int int") => `(tactic| (k_here; (with_reducible refine irshift_int ?hn ?_); (case hn => omega)))
local macro_rules | `(tactic| ktr_call $x $c) => `(tactic| ((refine' CI.use $x ?k1 ?k2 ?k3 ?k4 ?k5 ?kK ?kd ?ku ?kR); (case k1 => k_asm); (case k2 => k_asm); (case k3 => k_asm); (case k4 => k_asm); (case k5 => k_asm); (case kK => first | exact rfl | assumption); (case kd => ktr_room); (case ku => ktr_units); (case' kR => (intro t9 h9 tk9 F9 N9; (try dsimp only); (try k_fold)))))
local macro_rules | `(tactic| ktn_call $x $c) => `(tactic| ((refine' CT.use $x ?k1 ?k2 ?k3 ?k4 ?k5 ?kK ?kd ?ku ?kR); (case k1 => k_asm); (case k2 => k_asm); (case k3 => k_asm); (case k4 => k_asm); (case k5 => k_asm); (case kK => first | exact rfl | assumption); (case kd => ktr_room); (case ku => ktr_units); (case' kR => (intro D9 u1 u2 u3 u4 k9 h9 tk9 F9 N9 l9; (try k_lt l9); (try dsimp only); (try k_fold)))))
local macro_rules | `(tactic| ktr_call $x $c) => `(tactic| ((refine' CF.use $x ?k1 ?k2 ?k3 ?k4 ?k5 ?kK ?kd ?ku ?kR); (case k1 => k_asm); (case k2 => k_asm); (case k3 => k_asm); (case k4 => k_asm); (case k5 => k_asm); (case kK => first | exact rfl | assumption); (case kd => ktr_room); (case ku => ktr_units); (case' kR => (intro h9 tk9 F9 N9; (try dsimp only); (try k_fold)))))
local macro_rules | `(tactic| cell_enter) => `(tactic| (refine' code_def ?k1 ?k2 ?k3 ?k4 ?k5 ?kA ?kF ?kK ?k6 ?k7 ?k8 ?k9 ?kB ?_ ?c2 ?c3 ?c4 ?c5; (case kA => exact rfl); (case kF => exact rfl); (case kK => first | exact rfl | assumption); (case k1 => k_asm); (case k2 => k_asm); (case k3 => k_asm); (case k4 => k_asm); (case k5 => k_asm); (case k6 => k_is); (case k7 => k_is); (case k8 => ktr_room); (case k9 => first | exact BindsTo.of_eq rfl | exact binds_K (by k_in) rfl (by k_is) rfl rfl rfl); (case c5 => decide); (case kB => exact locs rfl); (case c2 => exact rfl); (case c3 => exact rfl); (case c4 => exact rfl); k_whole; intro g' L' h' FG' F' N' B' X' T'; (try dsimp only); (try k_lift B'); (try k_fold)))
local macro_rules | `(tactic| walk_at "binaryOp LShift int int") => `(tactic| (k_here; first
  | ((with_reducible refine lshift_int_small ?ha ?hb ?hc ?_); (case ha => omega); (case hb => omega); (case hc => decide))
  | ((with_reducible refine lshift_int ?ha ?hb ?_); (case ha => omega); (case hb => omega))))
local macro_rules | `(tactic| walk_at "call builtin:divmod") => `(tactic| (k_here; (with_reducible show wpAny _ _ (call (Value.builtin _) [Value.int _ _, Value.int _ _]) _ _ _); refine divmod_N (by assumption) (by assumption) (by omega) ?_ (Or.inl (PyProof.noPylong_of_log2 (by assumption))); intro _ _ _))
local macro_rules | `(tactic| ked_read) => `(tactic| first | exact read4N (by k_asm) (by k_mem) | exact read4K (by k_in) (by k_is) rfl)
local macro_rules | `(tactic| walk_at "compareOp Eq ref ref") => `(tactic| (k_here; (with_reducible show wpAny _ _ (compareOp CmpOp.Eq (Value.ref _) (Value.ref _)) _ _ _); k_dflt ((refine' eq4 ?hX ?hY ?hu ?_); (case hX => ked_read); (case hY => ked_read); (case hu => ktr_units))))
local macro_rules | `(tactic| ktn_call $x $c) => `(tactic| ((refine' C2.use $x ?k1 ?k2 ?k3 ?k4 ?k5 ?kK ?kd ?ku ?kR); (case k1 => k_asm); (case k2 => k_asm); (case k3 => k_asm); (case k4 => k_asm); (case k5 => k_asm); (case kK => first | exact rfl | assumption); (case kd => ktr_room); (case ku => ktr_units); (case' kR => (intro D9 u1 u2 k9 h9 tk9 F9 N9 l9; (try k_lt l9); (try dsimp only); (try k_fold)))))
local macro_rules | `(tactic| walk_at "binaryOp Pow int int") => `(tactic| (k_here; (with_reducible refine pow2 ?ha ?hb ?_); (case ha => omega); (case hb => omega)))
set_option maxHeartbeats 0
local macro_rules | `(tactic| walk_at "binaryOp Mod int int") => `(tactic| (k_here; (with_reducible refine mod_gen ?ha ?_); (case ha => first | omega | exact pow2_pos _); intro r9 hr0 hr1; (try dsimp only)))
local macro_rules | `(tactic| walk_at "binaryOp FloorDiv int int") => `(tactic| (k_here; (with_reducible refine div_gen ?ha ?hp ?_); (case ha => first | omega | exact pow2_pos _); (case hp => first | exact PyProof.noPylong_small (by omega) | exact PyProof.noPylong_of_log2 (by decide +kernel)); intro q9 hq0 hq1; (try dsimp only)))
local macro_rules | `(tactic| walk_at "binaryOp Pow int int") => `(tactic| (k_here; (with_reducible refine pow10_gen ?ha ?hb ?_); (case ha => omega); (case hb => omega); intro x9 hx0 hx1 hx2; (try dsimp only)))
local macro_rules | `(tactic| ktr_call $x $c) => `(tactic| ((refine' CX.use $x ?k1 ?k2 ?k3 ?k4 ?k5 ?kK ?kl ?ki ?kf ?kd ?ku ?kR); (case k1 => k_asm); (case k2 => k_asm); (case k3 => k_asm); (case k4 => k_asm); (case k5 => k_asm); (case kK => first | exact rfl | assumption); (case kl => k_asm); (case ki => l_ints); (case kf => l_fit); (case kd => ktr_room); (case ku => ktr_units); (case' kR => (intro x9 t9 h9 tk9 F9 N9; (try dsimp only); (try k_fold)))))
local macro_rules | `(tactic| walk_at "eval BinOp") => `(tactic| (k_here; k_dflt (k_extra "eval BinOp")))
local macro_rules | `(tactic| walk_at "eval Subscript") => `(tactic| (k_here; k_dflt (k_extra "eval Subscript")))
local macro_rules | `(tactic| walk_at "isTrue Compare") => `(tactic| (k_here; k_dflt (k_extra "isTrue Compare")))
local macro_rules | `(tactic| walk_at "isTrue BoolOp") => `(tactic| (k_here; k_dflt (k_extra "isTrue BoolOp")))
local macro_rules | `(tactic| walk_at "compareOp NotEq ref ref") => `(tactic| (k_here; (with_reducible show wpAny _ _ (compareOp CmpOp.NotEq (Value.ref _) (Value.ref _)) _ _ _); k_dflt ((refine' ne4 ?hX ?hY ?hu ?_); (case hX => ked_read); (case hY => ked_read); (case hu => ktr_units))))
local macro_rules | `(tactic| walk_at "call ref") => `(tactic| (k_here; k_dflt (k_extra "call ref")))
local macro_rules | `(tactic| walk_at "execs cons") => `(tactic| (k_here; k_dflt (k_extra "execs cons")))
local macro_rules | `(tactic| k_mem) => `(tactic| first | with_reducible assumption | with_reducible exact List.Mem.head _ | exact List.Mem.tail _ (by with_reducible assumption) | exact List.Mem.tail _ (List.Mem.tail _ (by with_reducible assumption)) | exact List.Mem.tail _ (List.Mem.head _))
local macro_rules | `(tactic| ked_read) => `(tactic| first | exact read4N (by k_asm) (by k_mem) | exact read4F (by k_asm) (by k_asm) (by k_is) rfl)
local macro_rules | `(tactic| walk_at "CompSrc") => `(tactic| (k_here; k_dflt (refine' comp3 ?c3h ?c3F ?c3N ?c3r ?c3t ?c3f; (case c3h => exact rfl); (case c3F => k_asm); (case c3N => k_asm); (case c3r => assumption); (case' c3t => (intro k' t' I' oI' C' oC' D' m' ys' h' tk' E' hk3' hC' hx' F' N'; (try dsimp only); (try k_fold))); (case' c3f => (intro D' h' tk' F' N'; (try dsimp only); (try k_fold))))))
local macro_rules | `(tactic| walk_at "BEnd") => `(tactic| (k_here; k_dflt (k_extra "BEnd")))
local macro_rules | `(tactic| walk_at "EvEnd") => `(tactic| (k_here; k_dflt (first
  | exact EvEnd.int2 (by k_asm) (by k_asm) (fun _ h => h) (by assumption) (by assumption) (by assumption) (by assumption) (by assumption)
  | exact EvEnd.md .n (by k_asm) (by k_asm) (fun _ h => List.Mem.tail _ h) rfl
  | exact EvEnd.md .f (by k_asm) (by k_asm) (fun _ h => List.Mem.tail _ h) rfl
  | exact EvEnd.md .c (by k_asm) (by k_asm) (fun _ h => List.Mem.tail _ h) rfl
  | exact EvEnd.md .d (by k_asm) (by k_asm) (fun _ h => List.Mem.tail _ h) rfl
  | exact EvEnd.md .u (by k_asm) (by k_asm) (fun _ h => List.Mem.tail _ h) rfl
  | exact EvEnd.nat (by k_asm) (by k_asm) (fun _ h => h) (by omega) (by omega))))
local macro_rules | `(tactic| walk_at "subscriptTail Name Constant ref int") => `(tactic| (k_here; (with_reducible show wpAny _ _ (subscriptTail _ _ (Value.ref _) (Value.int _ _)) _ _ _); first
  | (refine' sub2a ?sN ?sm ?sh; (case sN => k_asm); (case sm => k_mem))
  | (refine' sub2b ?sN ?sm ?sh; (case sN => k_asm); (case sm => k_mem))
  | (refine' sub4b ?sN ?sm ?sh; (case sN => k_asm); (case sm => k_mem))))
theorem law_holds : PySem.Challenge.rw_ah5003_01.Holds := hd (by
  k_with_none
  k_with "call ref" => (
    (with_reducible show wpAny _ _ (call (Value.ref 114) _) _ _ _)
    ktr_call (con_mixed _ (by decide) (by decide) _) ())
  k_with "call ref" => (
    (with_reducible show wpAny _ _ (call (Value.ref 121) _) _ _ _)
    (fail_if_success have := hws)
    refine' CW.use (con_raw _ _) ?r1 ?r2 ?r3 ?r4 ?r5 ?r6 ?r7 ?r8 ?r9
    (case r1 => k_asm)
    (case r2 => k_asm)
    (case r3 => k_asm)
    (case r4 => k_asm)
    (case r5 => k_asm)
    (case r6 => exact rfl)
    (case r7 => ktr_room)
    (case r8 => ktr_units)
    case' r9 =>
      intro Ds sgs sms ses ts1 ts2 ts3 ts4 ks hsr tkr hws Fr1 Nr1 lr1
      (try k_lt lr1)
      (try dsimp only)
      try k_fold)
  k_with "call ref" => (
    (with_reducible show wpAny _ _ (call (Value.ref 121) _) _ _ _)
    (have := hws)
    refine' CW.use (con_raw _ _) ?u1 ?u2 ?u3 ?u4 ?u5 ?u6 ?u7 ?u8 ?u9
    (case u1 => k_asm)
    (case u2 => k_asm)
    (case u3 => k_asm)
    (case u4 => k_asm)
    (case u5 => k_asm)
    (case u6 => exact rfl)
    (case u7 => ktr_room)
    (case u8 => ktr_units)
    case' u9 =>
      intro Dt sgt smt set' tt1 tt2 tt3 tt4 kt htr tku hwt Fu1 Nu1 lu1
      (try k_lt lu1)
      obtain ⟨ds1, ds2, ds3, ds4, ds5, ds6, ds7⟩ := hws.facts
      obtain ⟨dt1, dt2, dt3, dt4, dt5, dt6, dt7⟩ := hwt.facts
      have bA := WA_bits hws
      have bB := WB_bits hws
      have bA' := WA_bits hwt
      have bB' := WB_bits hwt
      have mo1 : IntMulOk (WA sgs sms ses) (WA sgt smt set') := mulOk (by omega)
      have mo2 : IntMulOk (WB ses) (WB set') := mulOk (by omega)
      have mo3 : IntMulOk (WA sgs sms ses) (WB set') := mulOk (by omega)
      have mo4 : IntMulOk (WB ses) (WA sgt smt set') := mulOk (by omega)
      (try dsimp only)
      try k_fold)
  k_with "call ref" => (
    (with_reducible show wpAny _ _ (call (Value.ref 128) _) _ _ _)
    first
    | (ktn_call (con_worth _ hws _ ?wm1) (); case wm1 => k_mem)
    | (ktn_call (con_worth _ hwt _ ?wm2) (); case wm2 => k_mem))
  k_with "eval BinOp" => (
    (with_reducible show wpAny _ _ (eval (Expr.BinOp (Expr.Constant _ _ _) Operator.Add (Expr.BinOp _ Operator.Mod _ _) _) _) _ _ _)
    refine' eval_cut (σ := Nat × Tok) (fun c => .int (c.1 : Int) c.2) (fun c => 0 < c.1 ∧ c.1 ≤ 100) ?aF ?aN ?a1 ?a2
    (case aF => k_asm)
    (case aN => k_asm)
    (case' a1 => try k_fold)
    case' a2 =>
      intro cp hp9 tkp Pp Fp Np
      obtain ⟨pn, tp⟩ := cp
      obtain ⟨hp0, hp1⟩ := Pp
      try dsimp only at hp0 hp1 ⊢)
  k_with "eval BinOp" => (
    (with_reducible show wpAny _ _ (eval (Expr.BinOp (Expr.BinOp _ Operator.Mod _ _) Operator.Sub _ _) _) _ _ _)
    (fail_if_success have := hpv)
    refine' eval_cut (σ := Int × Tok) (fun c => .int c.1 c.2) (fun c => -(10 ^ 39) ≤ c.1 ∧ c.1 ≤ 2 * 10 ^ 39) ?cF ?cN ?c1 ?c2
    (case cF => k_asm)
    (case cN => k_asm)
    (case' c1 => try k_fold)
    case' c2 =>
      intro cpv hpp tkp Ppv Fpv Npv
      obtain ⟨pv, tpv⟩ := cpv
      (try dsimp only at Ppv)
      obtain ⟨hpv, hpv'⟩ := pq_bits Ppv.1 Ppv.2
      have mo5 : IntMulOk (WA sgs sms ses) pv := mulOk (by omega)
      try dsimp only)
  k_with "eval BinOp" => (
    (with_reducible show wpAny _ _ (eval (Expr.BinOp (Expr.BinOp _ Operator.Mod _ _) Operator.Sub _ _) _) _ _ _)
    (have := hpv)
    refine' eval_cut (σ := Int × Tok) (fun c => .int c.1 c.2) (fun c => -(10 ^ 39) ≤ c.1 ∧ c.1 ≤ 2 * 10 ^ 39) ?dF ?dN ?d1 ?d2
    (case dF => k_asm)
    (case dN => k_asm)
    (case' d1 => try k_fold)
    case' d2 =>
      intro cqv hqq tkq Pqv Fqv Nqv
      obtain ⟨qv, tqv⟩ := cqv
      (try dsimp only at Pqv)
      obtain ⟨hqv, hqv'⟩ := pq_bits Pqv.1 Pqv.2
      have mo6 : IntMulOk qv (WB set') := mulOk (by omega)
      try dsimp only)
  k_with "eval Subscript" => (
    (with_reducible show wpAny _ _ (eval (Expr.Subscript (Expr.List _ _) _ _) _) _ _ _)
    refine' eval_cut (σ := Md × Tok) (fun c => .str c.1.str c.2) (fun _ => True) ?bF ?bN ?b1 ?b2
    (case bF => k_asm)
    (case bN => k_asm)
    (case' b1 => try k_fold)
    case' b2 =>
      intro cm9 hm9 tkm Pm Fm Nm
      obtain ⟨md, tmd⟩ := cm9
      try dsimp only)
  k_with "isTrue Compare" => (
    (with_reducible show wpAny _ _ (isTrue (Expr.Compare (Expr.Call (Expr.Name (PySem.Str.ofString "mpf_mul") _) (_ :: _ :: _ :: _) _ _) _ _ _) _ _) _ _ _)
    refine' test_cut false ?eF ?eN ?e1 ?e2
    (case eF => k_asm)
    (case eN => k_asm)
    (case' e2 =>
      intro hxe tkxe Fxe Nxe
      (try dsimp only)
      try k_fold)
    case' e1 =>
      rcases Classical.em (sms = 0 ∨ smt = 0) with hz | hz
      have hzi : (sms : Int) = 0 ∨ (smt : Int) = 0 := by omega
      have hA0 : WA sgs sms ses * WA sgt smt set' = 0 := by
        rcases hz with h | h
        · rw [WA_zero h, Int.zero_mul]
        · rw [WA_zero h, Int.mul_zero]
      try k_fold
      rotate_left
      obtain ⟨g1, g2, g3, g4, g5, g6, gE, gX⟩ := cmp1 hws hwt (fun h => hz (.inl h)) (fun h => hz (.inr h))
      have hE := gE md pn hp0
      try k_fold)
  k_with "isTrue Compare" => (
    (with_reducible show wpAny _ _ (isTrue (Expr.Compare (Expr.Call (Expr.Name (PySem.Str.ofString "mpf_mul") _) [_, _] _ _) _ _ _) _ _) _ _ _)
    refine' test_cut false ?fF ?fN ?f1 ?f2
    (case fF => k_asm)
    (case fN => k_asm)
    (case' f2 =>
      intro hxf tkxf Fxf Nxf
      (try dsimp only)
      try k_fold)
    case' f1 =>
      rcases Classical.em (sms = 0 ∨ smt = 0) with hz | hz
      have hzi : (smt : Int) = 0 ∨ (sms : Int) = 0 := by omega
      have hA0 : WA sgs sms ses * WA sgt smt set' = 0 := by
        rcases hz with h | h
        · rw [WA_zero h, Int.zero_mul]
        · rw [WA_zero h, Int.mul_zero]
      try k_fold
      rotate_left
      obtain ⟨g1, g2, g3, g4, g5, g6, gE, gX⟩ := cmp1 hws hwt (fun h => hz (.inl h)) (fun h => hz (.inr h))
      have hE := gX md
      try k_fold)
  k_with "isTrue Compare" => (
    (with_reducible show wpAny _ _ (isTrue (Expr.Compare (Expr.Call (Expr.Name (PySem.Str.ofString "mpf_mul_int") _) _ _ _) _ _ _) _ _) _ _ _)
    refine' test_cut false ?gF ?gN ?g1 ?g2
    (case gF => k_asm)
    (case gN => k_asm)
    (case' g2 =>
      intro hxg tkxg Fxg Nxg
      (try dsimp only)
      try k_fold)
    case' g1 =>
      rcases Classical.em (sms = 0 ∨ pv = 0) with hz | hz
      have hzi : (sms : Int) = 0 ∨ pv = 0 := by omega
      have hA0 : WA sgs sms ses * pv = 0 := by
        rcases hz with h | h
        · rw [WA_zero h, Int.zero_mul]
        · rw [h, Int.mul_zero]
      try k_fold
      rotate_left
      obtain ⟨g1, g2, g3, g4, g5, g6, gE⟩ := cmp3 hws (fun h => hz (.inl h)) (fun h => hz (.inr h)) hpv'
      have hE := gE md pn hp0
      try k_fold)
  k_with "isTrue BoolOp" => (
    (with_reducible show wpAny _ _ (isTrue (Expr.BoolOp _ [_, Expr.Compare (Expr.Call (Expr.Name (PySem.Str.ofString "mpf_div") _) _ _ _) _ _ _] _) _ _) _ _ _)
    refine' test_cut false ?iF ?iN ?i1 ?i2
    (case iF => k_asm)
    (case iN => k_asm)
    (case' i2 =>
      intro hxi tkxi Fxi Nxi
      (try dsimp only)
      try k_fold)
    case' i1 =>
      rcases Classical.em (smt = 0) with hz | hz
      try k_fold
      rotate_left
      rcases Classical.em (sms = 0) with hz2 | hz2
      obtain ⟨es1, es2, es3⟩ := hws.zero hz2
      have hA0 : WA sgs sms ses * WB set' = 0 := by rw [WA_zero es1, Int.zero_mul]
      have es4 : ((bl sms : Nat) : Int) = 0 := by rw [es1]; rfl
      try k_fold
      rotate_left
      obtain ⟨g1, g2, g3, g4, g5, g6, g7, g8, g9, gE⟩ := cmp4 hws hwt hz2 hz
      have hE := fun (md : Md) (N D p : Nat) => NE' (md := md) (N := N) (D := D) (p := p) gE
      try k_fold)
  k_with "isTrue BoolOp" => (
    (with_reducible show wpAny _ _ (isTrue (Expr.BoolOp _ [_, Expr.Compare (Expr.Call (Expr.Name (PySem.Str.ofString "mpf_rdiv_int") _) _ _ _) _ _ _] _) _ _) _ _ _)
    refine' test_cut false ?jF ?jN ?j1 ?j2
    (case jF => k_asm)
    (case jN => k_asm)
    (case' j2 =>
      intro hxj tkxj Fxj Nxj
      (try dsimp only)
      try k_fold)
    case' j1 =>
      rcases Classical.em (smt = 0) with hz | hz
      try k_fold
      rotate_left
      rcases Classical.em (qv = 0) with hz2 | hz2
      subst hz2
      have hA0 : 0 * WB set' = 0 := Int.zero_mul _
      try k_fold
      rotate_left
      obtain ⟨g1, g2, g3, g4, g5, g6, g7, g8, g9, gE⟩ := cmp5 hwt hz hz2 hqv'
      have hE := fun (md : Md) (N D p : Nat) => NE' (md := md) (N := N) (D := D) (p := p) gE
      try k_fold)
  k_with "isTrue BoolOp" => (
    (with_reducible show wpAny _ _ (isTrue (Expr.BoolOp _ [_, Expr.Compare (Expr.Call (Expr.Name (PySem.Str.ofString "from_rational") _) _ _ _) _ _ _] _) _ _) _ _ _)
    refine' test_cut false ?kF ?kN ?k1 ?k2
    (case kF => k_asm)
    (case kN => k_asm)
    (case' k2 =>
      intro hxk tkxk Fxk Nxk
      (try dsimp only)
      try k_fold)
    case' k1 =>
      rcases Classical.em (qv = 0) with hz | hz
      try k_fold
      rotate_left
      rcases Classical.em (pv = 0) with hz2 | hz2
      subst hz2
      have hA0 : (0 : Int) = 0 := rfl
      try k_fold
      rotate_left
      have gE := cmp6 hz2 hz
      have hE := fun (md : Md) (N D p : Nat) => NE' (md := md) (N := N) (D := D) (p := p) gE
      try k_fold)
  k_with "call ref" => (
    (with_reducible show wpAny _ _ (call (Value.ref 83) [_, _, _, _]) _ _ _)
    first
    | ((fail_if_success (fail_if_success have := hA0)); ktr_call (con_mul0 _ md ds5 dt5 hzi _ ?m1a ?m1b) (); (case m1a => k_mem); (case m1b => k_mem))
    | (ktn_call (con_mul _ md ds1 dt1 (by omega) (by omega) (Nat.le_trans ds2 (by decide)) (Nat.le_trans dt2 (by decide)) rfl hp0 _ ?m2a ?m2b) (); (case m2a => k_mem); (case m2b => k_mem)))
  k_with "call ref" => (
    (with_reducible show wpAny _ _ (call (Value.ref 83) [_, _]) _ _ _)
    first
    | ((fail_if_success (fail_if_success have := hA0)); ktr_call (con_mul0x _ dt5 ds5 hzi _ ?m3a ?m3b) (); (case m3a => k_mem); (case m3b => k_mem))
    | (ktn_call (con_mulx _ (by omega) (by omega) (Nat.le_trans dt2 (by decide)) (Nat.le_trans ds2 (by decide)) _ ?m4a ?m4b) (); (case m4a => k_mem); (case m4b => k_mem)))
  k_with "call ref" => (
    (with_reducible show wpAny _ _ (call (Value.ref 91) _) _ _ _)
    first
    | ((fail_if_success (fail_if_success have := hA0)); ktr_call (con_mul_int0 _ md ds5 hzi _ ?m5a) (); (case m5a => k_mem))
    | (ktn_call (con_mul_int _ md ds1 (by omega) (Nat.le_trans ds2 (by decide)) (Nat.le_trans hpv' (by decide)) (fun h => hz (.inr h)) rfl rfl hp0 _ ?m6a) (); (case m6a => k_mem)))
  k_with "call ref" => (
    (with_reducible show wpAny _ _ (call (Value.ref 135) _) _ _ _)
    first
    | ((fail_if_success (fail_if_success have := hA0)); ktn_call (con_rounded0 _ md hA0 _) ())
    | ktn_call (con_rounded _ md g1 g2 g3 g4 rfl hp0 (Nat.le_trans hp1 (by decide)) g5 g6 _) ()
    | ktn_call (con_rounded _ md (p := 200) g1 g2 g3 g4 rfl (by decide) (by decide) g5 g6 _) ())
  k_with "call ref" => (
    (with_reducible show wpAny _ _ (call (Value.ref 99) _) _ _ _)
    first
    | ((fail_if_success (fail_if_success have := hA0)); ktr_call (con_div0g _ md ?m7h ?m7c ?m7d ?m7e ?m7f _ ?m7a ?m7b) (); (case m7a => k_mem); (case m7b => k_mem); (case m7h => omega); (case m7c => exact es2); (case m7d => omega); (case m7e => exact es3); (case m7f => exact es4))
    | (ktn_call (con_div _ md ds1 dt1 (by omega) (by omega) (Nat.le_trans ds2 (by decide)) (Nat.le_trans dt2 (by decide)) rfl rfl rfl hp0 (Nat.le_trans hp1 (by decide)) g5 g6 g9 _ ?m8a ?m8b) (); (case m8a => k_mem); (case m8b => k_mem)))
  k_with "call ref" => (
    (with_reducible show wpAny _ _ (call (Value.ref 107) _) _ _ _)
    first
    | ((fail_if_success (fail_if_success have := hA0)); ktr_call (con_rdiv0 _ md ?m9h _ ?m9a) (); (case m9a => k_mem); (case m9h => omega))
    | (ktn_call (con_rdiv _ md dt1 hz2 (by omega) (Nat.le_trans hqv' (by decide)) (Nat.le_trans dt2 (by decide)) rfl rfl hp0 (Nat.le_trans hp1 (by decide)) g5 g6 g9 _ ?m0a) (); (case m0a => k_mem)))
  k_with "call ref" => (
    (with_reducible show wpAny _ _ (call (Value.ref 68) _) _ _ _)
    first
    | ((fail_if_success (fail_if_success have := hA0)); ktr_call (con_rat0 _ md hz _) ())
    | ktn_call (con_rat _ md hz2 hz (Nat.le_trans hpv' (by decide)) (Nat.le_trans hqv' (by decide)) rfl hp0 (Nat.le_trans hp1 (by decide)) _) ())
  k_with "call ref" => (
    (with_reducible show wpAny _ _ (call (Value.ref 142) _) _ _ _)
    first
    | ((fail_if_success (fail_if_success have := hA0)); ktn_call (con_quotient0 _ md hA0 _) ())
    | ktn_call (con_quotient _ md g1 g2 g3 g4 rfl hp0 (Nat.le_trans hp1 (by decide)) g7 g8 _) ()
    | ktn_call (con_quotient _ md hz2 rfl hz rfl rfl hp0 (Nat.le_trans hp1 (by decide)) (Nat.le_trans hpv' (by decide)) (Nat.le_trans hqv' (by decide)) _) ())
  k_with "call ref" => (
    (with_reducible show wpAny _ _ (call (Value.ref 149) _) _ _ _)
    refine' Call0.use (refused _ md hws.caseB ?v9 _ ?v8) ?v1 ?v2 ?v3 ?v4 ?v5 ?v6 ?v7 ?vK ?vd ?vu ?vR
    (case v1 => assumption)
    (case v2 => assumption)
    (case v3 => k_asm)
    (case v4 => k_asm)
    (case v5 => k_asm)
    (case v6 => k_asm)
    (case v7 => k_asm)
    (case v8 => k_mem)
    (case v9 => assumption)
    (case vK => first | exact rfl | assumption)
    (case vd => ktr_room)
    (case vu => ktr_units)
    case' vR =>
      intro h9 tk9 F9 N9
      exact TEnd.intro F9 N9)
  k_with "BEnd" => (
    first
    | exact BEnd.intro (by with_reducible rfl) (by k_asm) (by k_asm) (by first | exact fun _ h => h | exact fun _ h => List.Mem.tail _ h | exact fun _ h => List.Mem.tail _ (List.Mem.tail _ h))
    | exact BEnd.intro (ndec ⟨rfl, rfl, rfl, rfl⟩) (by k_asm) (by k_asm) (by first | exact fun _ h => h | exact fun _ h => List.Mem.tail _ h | exact fun _ h => List.Mem.tail _ (List.Mem.tail _ h))
    | exact BEnd.intro (ndec hE) (by k_asm) (by k_asm) (fun _ h => List.Mem.tail _ (List.Mem.tail _ h))
    | exact BEnd.intro (ndec (hE _ _ _ _)) (by k_asm) (by k_asm) (fun _ h => List.Mem.tail _ (List.Mem.tail _ h))
    | exact absurd (hE _ _ _ _) (by assumption))
  k_go0
  all_goals try k_fold
  k_steps)
end Mine
end
open PySem PySem.W PyProof.Rows
theorem PySem.Challenge.cw_ah5003_01_holds : PySem.Challenge.rw_ah5003_01.Holds :=
  Mine.law_holds
