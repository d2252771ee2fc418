import PyProof.Rows.All
import Wide.All
import OpenK.AllK
import Wide.FinOn
import Lean
import PySem.Challenge.RW_be5013_01
open PySem PySem.W PyProof.Rows
set_option Elab.async false
namespace Mine

/-- what the called def hands back -/
def est (n : Int) : Int := ((Builtin.Int.intBits (Builtin.bitOr ((n * 3 + 1).fdiv 2) 7) : Nat) : Int)

theorem or_lt {a b : Nat} (j : Nat) : a ||| b < 2 ^ j ↔ a < 2 ^ j ∧ b < 2 ^ j := by
  constructor
  · intro h
    exact ⟨Nat.lt_of_le_of_lt Nat.left_le_or h, Nat.lt_of_le_of_lt Nat.right_le_or h⟩
  · rintro ⟨h1, h2⟩
    exact Nat.or_lt_two_pow h1 h2

theorem bitOr_nat (a b : Nat) : Builtin.bitOr (a : Int) (b : Int) = ((a ||| b : Nat) : Int) := by
  have h1 : ¬ (0 : Int) ≤ Builtin.bitNot (a : Int) := by show ¬ (0 : Int) ≤ -(a : Int) - 1; omega
  have h2 : ¬ (0 : Int) ≤ Builtin.bitNot (b : Int) := by show ¬ (0 : Int) ≤ -(b : Int) - 1; omega
  have e1 : Builtin.bitNot (Builtin.bitNot (a : Int)) = (a : Int) := bitNot_bitNot _
  have e2 : Builtin.bitNot (Builtin.bitNot (b : Int)) = (b : Int) := bitNot_bitNot _
  show Builtin.bitNot (Builtin.bitAnd (Builtin.bitNot (a : Int)) (Builtin.bitNot (b : Int))) = _
  rw [bitAnd_nn h1 h2, e1, e2, bitNot_bitNot]
  rfl

/-- the bits of what is asked, against any size from three bits on -/
theorem est_le {n : Int} (h0 : 0 ≤ n) (m : Nat) : est n ≤ (m : Int) ↔ 3 ≤ m ∧ 3 * n + 1 < 2 ^ (m + 1) := by
  have e : (n * 3 + 1).fdiv 2 = (((n * 3 + 1).toNat / 2 : Nat) : Int) := by
    rw [Int.fdiv_eq_ediv_of_nonneg _ (by decide)]; omega
  have e7 : (7 : Int) = ((7 : Nat) : Int) := rfl
  unfold est
  rw [e, e7, bitOr_nat, Int.ofNat_le, intBits_le_iff, Int.natAbs_natCast, or_lt]
  have p1 : (2 : Int) ^ (m + 1) = ((2 ^ (m + 1) : Nat) : Int) := (kbt_cast _).symm
  rw [p1]
  have p2 : 2 ^ (m + 1) = 2 * 2 ^ m := by rw [Nat.pow_succ]; omega
  rw [p2]
  have p3 : 7 < 2 ^ m ↔ 3 ≤ m := by
    constructor
    · intro h
      apply Classical.byContradiction
      intro hm
      have : m = 0 ∨ m = 1 ∨ m = 2 := by omega
      rcases this with rfl | rfl | rfl <;> simp at h
    · intro h
      have : 2 ^ 3 ≤ 2 ^ m := Nat.pow_le_pow_right (by decide) h
      omega
  rw [p3]
  constructor
  · rintro ⟨h1, h2⟩
    exact ⟨h2, by omega⟩
  · rintro ⟨h1, h2⟩
    exact ⟨by omega, h1⟩

theorem est_nonneg (n : Int) : 0 ≤ est n := Int.natCast_nonneg _

/-- the three facts of what is handed back -/
theorem est_spec {n : Int} (h0 : 0 ≤ n) : 3 ≤ est n ∧ 3 * n + 1 < 2 ^ ((est n).toNat + 1) ∧ (est n = 3 ∨ 2 ^ (est n).toNat ≤ 3 * n + 1) := by
  have hn := est_nonneg n
  have e : est n = ((est n).toNat : Int) := (Int.toNat_of_nonneg hn).symm
  obtain ⟨h1, h2⟩ := (est_le h0 (est n).toNat).mp (by omega)
  refine ⟨by omega, h2, ?_⟩
  by_cases h3 : est n = 3
  · exact .inl h3
  · right
    apply Classical.byContradiction
    intro h4
    have h5 := (est_le h0 ((est n).toNat - 1)).mpr ⟨by omega, by
      have : (est n).toNat - 1 + 1 = (est n).toNat := by omega
      rw [this]; omega⟩
    omega

theorem pow_mono {a b : Nat} (h : a ≤ b) : (2 : Int) ^ a ≤ 2 ^ b := by
  have h1 := Nat.pow_le_pow_right (show 0 < 2 by decide) h
  rw [← kbt_cast, ← kbt_cast]
  omega

/-- a count below 2 ** 140 is told by fewer than 143 -/
theorem est_small {n : Int} (h0 : 0 ≤ n) (h1 : n < 1393796574908163946345982392040522594123776) : est n ≤ 142 := by
  have := (est_le h0 142).mpr ⟨by decide, by
    have : (2 : Int) ^ (142 + 1) = 11150372599265311570767859136324180752990208 := by decide
    rw [this]; omega⟩
  omega

/-- the counting's k is the same -/
theorem est_eq {n : Int} (h0 : 0 ≤ n) {k : Nat} (h3 : 3 ≤ k) (hu : 3 * n + 1 < 2 ^ (k + 1)) (hl : k = 3 ∨ 2 ^ k ≤ 3 * n + 1) : est n = (k : Int) := by
  have h1 := (est_le h0 k).mpr ⟨h3, hu⟩
  obtain ⟨g1, g2, g3⟩ := est_spec h0
  apply Classical.byContradiction
  intro hne
  have hlt : (est n).toNat + 1 ≤ k := by omega
  have hm := pow_mono hlt
  omega

/-- the law's second test -/
theorem est_top {n : Int} (h0 : 0 ≤ n) : n ≤ ((2 : Int) ^ ((est n).toNat + 1)).fdiv 3 := by
  obtain ⟨_, g2, _⟩ := est_spec h0
  rw [Int.fdiv_eq_ediv_of_nonneg _ (by decide)]
  generalize (2 : Int) ^ ((est n).toNat + 1) = p at *
  omega
def yes (_ : Int) : Bool := true
/-- the facts behind each call of the judged def, for any count -/
theorem est_fact (n : Int) : 0 ≤ est n ∧ (0 ≤ n → 3 ≤ est n ∧ n ≤ ((2 : Int) ^ ((est n + 1).toNat)).fdiv 3 ∧ (est n = 3 ∨ 2 ^ (est n).toNat ≤ 3 * n + 1)) ∧ (0 ≤ n → n < 1393796574908163946345982392040522594123776 → est n ≤ 142) := by
  refine ⟨est_nonneg n, fun h0 => ?_, fun h0 h1 => est_small h0 h1⟩
  have hn := est_nonneg n
  obtain ⟨g1, _, g3⟩ := est_spec h0
  have e : (est n + 1).toNat = (est n).toNat + 1 := by omega
  rw [e]
  exact ⟨g1, est_top h0, g3⟩
theorem due_eq {n k p : Int} (h0 : 0 ≤ n ∧ n < 1393796574908163946345982392040522594123776) (hI : 3 ≤ k ∧ p = 2 ^ k.toNat ∧ 8 ≤ p ∧ (k = 3 ∨ p ≤ 3 * n + 1)) (hx : ¬ (3 * n + 1 ≥ p * 2)) : k = est n := by
  obtain ⟨h1, h2, h3, h4⟩ := hI
  have e : (2 : Int) ^ (k.toNat + 1) = p * 2 := by rw [Int.pow_succ, ← h2]
  rw [est_eq (k := k.toNat) h0.1 (by omega) (by rw [e]; omega) (by omega)]
  omega
theorem due_start {n : Int} : (3 : Int) ≤ 3 ∧ (8 : Int) = 2 ^ (3 : Int).toNat ∧ (8 : Int) ≤ 8 ∧ ((3 : Int) = 3 ∨ (8 : Int) ≤ 3 * n + 1) := ⟨by decide, by decide, by decide, .inl rfl⟩
theorem due_turn {n k p : Int} (hI : 3 ≤ k ∧ p = 2 ^ k.toNat ∧ 8 ≤ p ∧ (k = 3 ∨ p ≤ 3 * n + 1)) (hx : 3 * n + 1 ≥ p * 2) : 3 ≤ k + 1 ∧ p * 2 = 2 ^ (k + 1).toNat ∧ 8 ≤ p * 2 ∧ (k + 1 = 3 ∨ p * 2 ≤ 3 * n + 1) := by
  obtain ⟨h1, h2, h3, h4⟩ := hI
  have e : (k + 1).toNat = k.toNat + 1 := by omega
  refine ⟨by omega, ?_, by omega, by omega⟩
  rw [e, Int.pow_succ, ← h2]
theorem mod_pre (n : Int) : 0 ≤ n.fmod (10 ^ Int.toNat 40) ∧ n.fmod (10 ^ Int.toNat 40) < 1393796574908163946345982392040522594123776 := by
  have e : (10 : Int) ^ Int.toNat 40 = 10000000000000000000000000000000000000000 := by decide
  rw [e, Int.fmod_eq_emod_of_nonneg _ (by decide)]
  omega
theorem top_in (n : Int) : 4 ≤ ((2 : Int) ^ (3 + n.fmod 40 + 1).toNat - 2).fdiv 3 ∧ ((2 : Int) ^ (3 + n.fmod 40 + 1).toNat - 2).fdiv 3 < 1000000000000000 := by
  have h : 0 ≤ n.fmod 40 ∧ n.fmod 40 < 40 := by
    rw [Int.fmod_eq_emod_of_nonneg _ (by decide)]; omega
  have h1 : (2 : Int) ^ 4 ≤ 2 ^ (3 + n.fmod 40 + 1).toNat := pow_mono (by omega)
  have h2 : (2 : Int) ^ (3 + n.fmod 40 + 1).toNat ≤ 2 ^ 43 := pow_mono (by omega)
  rw [Int.fdiv_eq_ediv_of_nonneg _ (by decide)]
  generalize (2 : Int) ^ (3 + n.fmod 40 + 1).toNat = p at *
  have e1 : (2 : Int) ^ 4 = 16 := by decide
  have e2 : (2 : Int) ^ 43 = 8796093022208 := by decide
  omega
theorem top_a (n : Int) : 0 ≤ ((2 : Int) ^ (3 + n.fmod 40 + 1).toNat - 2).fdiv 3 - 1 ∧ ((2 : Int) ^ (3 + n.fmod 40 + 1).toNat - 2).fdiv 3 - 1 < 1393796574908163946345982392040522594123776 := by
  have h := top_in n
  omega
theorem top_b (n : Int) : 0 ≤ ((2 : Int) ^ (3 + n.fmod 40 + 1).toNat - 2).fdiv 3 ∧ ((2 : Int) ^ (3 + n.fmod 40 + 1).toNat - 2).fdiv 3 < 1393796574908163946345982392040522594123776 := by
  have h := top_in n
  omega
theorem top_c (n : Int) : 0 ≤ ((2 : Int) ^ (3 + n.fmod 40 + 1).toNat - 2).fdiv 3 + 1 ∧ ((2 : Int) ^ (3 + n.fmod 40 + 1).toNat - 2).fdiv 3 + 1 < 1393796574908163946345982392040522594123776 := by
  have h := top_in n
  omega
/-- the end of a turn of an unrolled loop whose ledger's tail is open: the iterator is the newest object -/
theorem end_open {h₀ h' : Heap} {L a : Addr} {o : Obj} {m' : Str → Option Value} {news' : List (Addr × Obj)} {rest : (Str → Option Value) → List (Addr × Obj) → Prop} {s₁ : Shared} {tk : Nat}
    (F : Fr h₀ L h' m') (N : News h₀ L h' ((a, o) :: news')) (hlt : AllLt a news') (r : rest m' news') : UnrEndW h₀ L s₁ [(a, o)] rest { s₁ with heap := h', toks := tk } :=
  ⟨h', tk, m', news', rfl, F, N, fun p hp q hq e => by
    rw [List.mem_singleton.mp hq] at e
    exact absurd (kst_ltOf hlt p hp) (e ▸ Nat.lt_irrefl _), r⟩
end Mine
open Mine
set_option maxRecDepth 100000 in
set_option maxHeartbeats 4000000 in
theorem PySem.Challenge.cw_be5013_01_holds : PySem.Challenge.rw_be5013_01.Holds := by
  k_with "call ref" => (k_call_rec "_law_holds" yes (fun (n : Int) => 0 ≤ n ∧ n < 1393796574908163946345982392040522594123776) (fun (_ : Int) => 1))
  k_with "call ref" => k_call_by "_law_due" est (fun (n : Int) => 0 ≤ n ∧ n < 1393796574908163946345982392040522594123776)
  k_with "call ref" => k_call_by "estimate_log2_keysize" est
  k_with "fact estimate_log2_keysize" => exact est_fact
  k_with "tree" => first | (simp only [est]; done) | ((with_reducible show (_ : Int) = _); exact due_eq (by assumption) ⟨by assumption, by assumption, by assumption, by assumption⟩ (by omega)) | ((with_reducible show (_ : Bool) = _); first | (exfalso; omega) | (simp only [yes, beq_iff_eq, decide_eq_true_eq]; omega))
  k_with "state" => first | exact due_start | (exact due_turn ⟨by assumption, by assumption, by assumption, by assumption⟩ (by omega))
  k_with "measure" => omega
  k_with "exec While Compare cons nil" => k_while_given ["count"] (fun n script p k => 3 ≤ k ∧ p = 2 ^ k.toNat ∧ 8 ≤ p ∧ (k = 3 ∨ p ≤ 3 * n + 1)) (fun n script p k => (3 * n + 1 - p).toNat) "places" "k"
  k_with "size" => first | exact mod_pre _ | exact top_a _ | exact top_b _ | exact top_c _
  k_with "pyIter ref" => first
    | k_search (fun (_ : List Int) => True)
    | ((with_reducible show wpAny _ _ (pyIter (Value.ref _)) (fun it s₂ => TurnsAt _ _ _ _ _ _ _ _ _ it s₂) _ _); k_here; (rename Fr _ _ _ _ => lF'); (rename News _ _ _ _ => lN'); (rename OwnOff _ _ => lOff); (with_unfolding_all refine iter_tupTurns (vs := [_, _, _]) (by rfl) lF' lN' (.head _) (by rfl) (by rfl) ?_); clear lF'; intro i' l1; (try k_lt l1))
  k_with "UnrEndW" => ((rename News _ _ _ _ => lN'); refine end_open (by assumption) lN' (by first | assumption | exact ⟨by omega, by omega, And.right (And.right (by assumption))⟩) ⟨by k_subL, ?_⟩)
  open_k
