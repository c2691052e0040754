import PyProof.Rows.All
import Wide.All
import OpenK.AllK
import Wide.FinOn
import KE.IntBitsLaws
import Wide.Fin
import PyProof.Rows.IntMath
import KE.BitLaws
import Lean
import PySem.Challenge.RW_ph0116_01
set_option Elab.async false
section
open PySem PySem.W PyProof.Rows
set_option Elab.async false
namespace Mine
set_option maxRecDepth 100000
set_option maxHeartbeats 8000000
open_top hd for PySem.Challenge.rw_ph0116_01
end Mine
end
local macro_rules | `(tactic| omega) => `(tactic| (law_clear; lia))
section
namespace Mine
def dsum (n : Nat) : List Int → Int
  | [] => 0
  | d :: r => d + 2 ^ n * dsum n r
theorem dsum_append (n : Nat) (l r : List Int) : dsum n (l ++ r) = dsum n l + 2 ^ (n * l.length) * dsum n r := by
  induction l with
  | nil => simp [dsum]
  | cons d t ih =>
    simp only [List.cons_append, dsum, ih, List.length_cons, Nat.mul_add, Nat.mul_one, Int.mul_add]
    rw [Nat.add_comm (n * t.length) n, Int.pow_add, Int.mul_assoc]
    omega
theorem dsum_bd {n : Nat} {l : List Int} (h : ∀ d ∈ l, 0 ≤ d ∧ d < 2 ^ n) : 0 ≤ dsum n l ∧ dsum n l < 2 ^ (n * l.length) := by
  induction l with
  | nil => simp [dsum]
  | cons d t ih =>
    have h1 := h d (.head _)
    have h2 := ih fun x hx => h x (.tail _ hx)
    simp only [dsum, List.length_cons]
    have hp : (0 : Int) < 2 ^ n := Int.pow_pos (by decide)
    have e : (2 : Int) ^ (n * (t.length + 1)) = 2 ^ n * 2 ^ (n * t.length) := by
      rw [← Int.pow_add]; congr 1; rw [Nat.mul_add, Nat.mul_one, Nat.add_comm]
    rw [e]
    have m1 : 0 ≤ 2 ^ n * dsum n t := Int.mul_nonneg (Int.le_of_lt hp) h2.1
    have m2 : 2 ^ n * (dsum n t + 1) ≤ 2 ^ n * 2 ^ (n * t.length) := Int.mul_le_mul_of_nonneg_left (by omega) (Int.le_of_lt hp)
    rw [Int.mul_add, Int.mul_one] at m2
    omega
theorem natAbs_lt_pow {x : Int} {k : Nat} (h0 : 0 ≤ x) (h : x < 2 ^ k) : x.natAbs < 2 ^ k := by
  have e : ((x.natAbs : Nat) : Int) = x := by omega
  have h2 : ((x.natAbs : Nat) : Int) < ((2 ^ k : Nat) : Int) := by rw [e]; simpa using h
  exact Int.ofNat_lt.mp h2
theorem bits_of_lt {x : Int} {k : Nat} (h0 : 0 ≤ x) (h : x < 2 ^ k) : PySem.Builtin.Int.intBits x ≤ k := PyProof.Rows.intBits_le (k := k) (natAbs_lt_pow h0 h)
theorem dsum_bits {n k : Nat} {l : List Int} (h : ∀ d ∈ l, 0 ≤ d ∧ d < 2 ^ n) (hk : n * l.length ≤ k) : PySem.Builtin.Int.intBits (dsum n l) ≤ k :=
  Nat.le_trans (bits_of_lt (dsum_bd h).1 (dsum_bd h).2) hk
theorem slice_mem {l : List Int} {a b : Nat} {d : Int} (h : d ∈ (l.drop a).take b) : d ∈ l := List.mem_of_mem_drop (List.mem_of_mem_take h)
theorem slice_len {l : List Int} {a b : Nat} (h : a + b ≤ l.length) : ((l.drop a).take b).length = b := by
  rw [List.length_take, List.length_drop]; omega
theorem slice_one {l : List Int} {a : Nat} (h : a < l.length) : (l.drop a).take 1 = [l.getD a 0] := by
  rw [List.drop_eq_getElem_cons h, List.take_succ_cons, List.take_zero]
  simp [List.getD, h]
theorem slice_cut {l : List Int} {a b c : Nat} (hb : b ≤ c) : (l.drop a).take c = (l.drop a).take b ++ (l.drop (a + b)).take (c - b) := by
  rw [← List.drop_drop, ← List.take_add]
  congr 1; omega
end Mine
namespace Mine
theorem mid_facts {lo hi : Int} {j : Nat} (h : lo < hi) (h1 : lo + 1 ≠ hi) (hj : hi - lo ≤ 2 ^ (j + 1)) :
    lo < (lo + hi).fdiv (2 ^ Int.toNat 1) ∧ (lo + hi).fdiv (2 ^ Int.toNat 1) < hi ∧ hi - (lo + hi).fdiv (2 ^ Int.toNat 1) ≤ 2 ^ j ∧ (lo + hi).fdiv (2 ^ Int.toNat 1) - lo ≤ 2 ^ j := by
  have e : (2 : Int) ^ Int.toNat 1 = 2 := by decide
  rw [e, Int.fdiv_eq_ediv_of_nonneg _ (by decide : (0 : Int) ≤ 2)]
  rw [Int.pow_succ] at hj
  omega
theorem slice_join {n : Nat} {ns : List Int} {lo mid hi : Int} (h0 : 0 ≤ lo) (h1 : lo ≤ mid) (h2 : mid ≤ hi) (h3 : hi ≤ ns.length) :
    dsum n ((ns.drop mid.toNat).take (hi - mid).toNat) * 2 ^ ((mid - lo) * (n : Int)).toNat + dsum n ((ns.drop lo.toNat).take (mid - lo).toNat) = dsum n ((ns.drop lo.toNat).take (hi - lo).toNat) := by
  have e1 : (ns.drop lo.toNat).take (hi - lo).toNat = (ns.drop lo.toNat).take (mid - lo).toNat ++ (ns.drop mid.toNat).take (hi - mid).toNat := by
    rw [slice_cut (b := (mid - lo).toNat) (by omega)]
    congr 2 <;> congr 1 <;> omega
  rw [e1, dsum_append, slice_len (by omega)]
  have e2 : ((mid - lo) * (n : Int)).toNat = n * (mid - lo).toNat := by
    have : (mid - lo) * (n : Int) = ((n * (mid - lo).toNat : Nat) : Int) := by
      rw [Int.natCast_mul, Int.toNat_of_nonneg (by omega), Int.mul_comm]
    rw [this, Int.toNat_natCast]
  rw [e2, Int.mul_comm, Int.add_comm]
end Mine
namespace Mine
open PySem.Builtin.Int (intBits)
def digs (n : Nat) : Nat → Int → List Int
  | 0, _ => []
  | k + 1, x => x % 2 ^ n :: digs n k (x / 2 ^ n)
def ndig (n : Nat) (x : Int) : Nat := (intBits x + n - 1) / n
theorem ndig_eq {x n : Int} (hn : 0 < n) : ((intBits x : Int) + n - 1).fdiv n = (ndig n.toNat x : Int) := by
  rw [Int.fdiv_eq_ediv_of_nonneg _ (by omega)]
  unfold ndig
  have e1 : ((intBits x : Int) + n - 1) = ((intBits x + n.toNat - 1 : Nat) : Int) := by omega
  have e2 : n = ((n.toNat : Nat) : Int) := by omega
  rw [e1, Int.natCast_ediv, ← e2]
theorem bits_pow {x : Int} {k : Nat} (h0 : 0 ≤ x) (h : x < 2 ^ k) : intBits x ≤ k := bits_of_lt h0 h
theorem ndig_le {x : Int} {n k : Nat} (hn : 0 < n) (h : intBits x ≤ k * n) : ndig n x ≤ k := by
  unfold ndig
  rw [Nat.div_le_iff_le_mul_add_pred hn]
  rw [Nat.mul_comm n k]; omega
theorem ndig_ge {x : Int} {n : Nat} (hn : 0 < n) : intBits x ≤ n * ndig n x := by
  unfold ndig
  have := Nat.div_add_mod (intBits x + n - 1) n
  have := Nat.mod_lt (intBits x + n - 1) hn
  omega
theorem lt_pow_bits {x : Int} (h : 0 ≤ x) : x < 2 ^ intBits x := by
  have := PySem.intBits_le_iff.mp (Nat.le_refl (intBits x))
  have e : ((x.natAbs : Nat) : Int) = x := by omega
  have h2 : ((x.natAbs : Nat) : Int) < ((2 ^ intBits x : Nat) : Int) := Int.ofNat_lt.mpr this
  rw [e] at h2; simpa using h2
theorem digs_length (n k : Nat) (x : Int) : (digs n k x).length = k := by
  induction k generalizing x with
  | zero => rfl
  | succ k ih => simp [digs, ih]
theorem digs_add (n j k : Nat) (x : Int) : digs n (j + k) x = digs n j x ++ digs n k (x / 2 ^ (n * j)) := by
  induction j generalizing x with
  | zero => simp [digs]
  | succ j ih =>
    rw [show j + 1 + k = (j + k) + 1 from by omega]
    simp only [digs, List.cons_append, ih]
    congr 2
    rw [Int.ediv_ediv_of_nonneg (by exact Int.le_of_lt (Int.pow_pos (by decide))), ← Int.pow_add, Nat.mul_add, Nat.mul_one, Nat.add_comm]
theorem digs_mod (n k : Nat) (x : Int) : digs n k (x % 2 ^ (n * k)) = digs n k x := by
  induction k generalizing x with
  | zero => rfl
  | succ k ih =>
    have hp : (0 : Int) < 2 ^ n := Int.pow_pos (by decide)
    have hp2 : (0 : Int) < 2 ^ (n * k) := Int.pow_pos (by decide)
    have e : (2 : Int) ^ (n * (k + 1)) = 2 ^ n * 2 ^ (n * k) := by rw [← Int.pow_add, Nat.mul_add, Nat.mul_one, Nat.add_comm]
    simp only [digs]
    rw [e]
    congr 1
    · rw [Int.emod_emod_of_dvd _ ⟨2 ^ (n * k), rfl⟩]
    · rw [← ih (x / 2 ^ n)]
      congr 1
      have d : x = 2 ^ n * (2 ^ (n * k) * (x / 2 ^ n / 2 ^ (n * k)) + x / 2 ^ n % 2 ^ (n * k)) + x % 2 ^ n := by
        rw [Int.mul_ediv_add_emod, Int.mul_ediv_add_emod]
      have m1 : x % (2 ^ n * 2 ^ (n * k)) = 2 ^ n * (x / 2 ^ n % 2 ^ (n * k)) + x % 2 ^ n := by
        have hb0 := Int.emod_nonneg x (Int.ne_of_gt hp)
        have hb1 := Int.emod_lt_of_pos x hp
        have hc0 := Int.emod_nonneg (x / 2 ^ n) (Int.ne_of_gt hp2)
        have hc1 := Int.emod_lt_of_pos (x / 2 ^ n) hp2
        have : x % (2 ^ n * 2 ^ (n * k)) = (2 ^ n * (x / 2 ^ n % 2 ^ (n * k)) + x % 2 ^ n) % (2 ^ n * 2 ^ (n * k)) := by
          conv => lhs; rw [d]
          rw [Int.mul_add, ← Int.mul_assoc, Int.add_assoc, Int.mul_add_emod_self_left]
        rw [this]
        apply Int.emod_eq_of_lt
        · have := Int.mul_nonneg (Int.le_of_lt hp) hc0; omega
        · have : 2 ^ n * (x / 2 ^ n % 2 ^ (n * k) + 1) ≤ 2 ^ n * 2 ^ (n * k) := Int.mul_le_mul_of_nonneg_left (by omega) (Int.le_of_lt hp)
          rw [Int.mul_add, Int.mul_one] at this
          omega
      rw [m1, Int.mul_add_ediv_left _ _ (Int.ne_of_gt hp), Int.ediv_eq_zero_of_lt (Int.emod_nonneg x (Int.ne_of_gt hp)) (Int.emod_lt_of_pos x hp), Int.add_zero]
end Mine
end
section
namespace Mine
open PySem PyProof.Rows
theorem nat_and_high (x k : Nat) : x &&& (x / 2 ^ k * 2 ^ k) = x / 2 ^ k * 2 ^ k := by
  apply Nat.eq_of_testBit_eq
  intro i
  rw [Nat.testBit_and, Nat.testBit_mul_two_pow, Nat.testBit_div_two_pow]
  by_cases h : k ≤ i
  · simp only [h, decide_true, Bool.true_and]
    rw [show i - k + k = i from by omega, Bool.and_self]
  · simp [h]
theorem xor_high {x : Int} (k : Nat) (h : 0 ≤ x) : Builtin.bitXor x (x.fdiv (2 ^ k) * 2 ^ k) = x % 2 ^ k := by
  have hp : (0 : Int) < 2 ^ k := Int.pow_pos (by decide)
  rw [Int.fdiv_eq_ediv_of_nonneg _ (Int.le_of_lt hp)]
  have e : Builtin.bitAnd x (x / 2 ^ k * 2 ^ k) = x / 2 ^ k * 2 ^ k := by
    have h2 : 0 ≤ x / 2 ^ k * 2 ^ k := Int.mul_nonneg (Int.ediv_nonneg h (Int.le_of_lt hp)) (Int.le_of_lt hp)
    rw [bitAnd_pp h h2]
    obtain ⟨y, rfl⟩ := Int.eq_ofNat_of_zero_le h
    have e2 : ((y : Int) / 2 ^ k * 2 ^ k) = ((y / 2 ^ k * 2 ^ k : Nat) : Int) := by
      rw [Int.natCast_mul, Int.natCast_ediv, Int.natCast_pow]; rfl
    rw [e2, Int.toNat_natCast, Int.toNat_natCast, nat_and_high]
  rw [bitXor_and, e]
  have := Int.mul_ediv_add_emod x (2 ^ k)
  rw [Int.mul_comm] at this
  omega
theorem digs_one {n : Nat} {x : Int} (h0 : 0 ≤ x) (h : x < 2 ^ n) : digs n 1 x = [x] := by
  simp only [digs, Int.emod_eq_of_lt h0 h]
theorem set_slice {ns : List Int} {i : Nat} {x : Int} (h : i < ns.length) : ns.set i x = ns.take i ++ [x] ++ ns.drop (i + 1) := by
  rw [List.set_eq_take_append_cons_drop, if_pos h]; simp
theorem zeros_digs (n : Nat) : ∀ k : Nat, (List.replicate k [(0 : Int)]).flatten = digs n k 0
  | 0 => rfl
  | k + 1 => by
    rw [List.replicate_succ, List.flatten_cons, zeros_digs n k]
    simp [digs]
theorem digs_join {ns : List Int} {n lo mid hi : Nat} {x : Int} (h1 : lo ≤ mid) (h2 : mid ≤ hi) (h3 : hi ≤ ns.length) :
    ((ns.take lo ++ digs n (mid - lo) (x % 2 ^ (n * (mid - lo))) ++ ns.drop mid).take mid ++ digs n (hi - mid) (x / 2 ^ (n * (mid - lo))) ++
      (ns.take lo ++ digs n (mid - lo) (x % 2 ^ (n * (mid - lo))) ++ ns.drop mid).drop hi) = ns.take lo ++ digs n (hi - lo) x ++ ns.drop hi := by
  have l1 : (ns.take lo ++ digs n (mid - lo) (x % 2 ^ (n * (mid - lo)))).length = mid := by
    rw [List.length_append, List.length_take, digs_length]; omega
  rw [List.take_append_of_le_length (by omega), List.take_of_length_le (by omega), List.drop_append, List.drop_of_length_le (by omega : _ ≤ hi), List.nil_append, l1, List.drop_drop, digs_mod]
  rw [show hi - lo = (mid - lo) + (hi - mid) from by omega, digs_add, show mid + (hi - mid) = hi from by omega]
  simp [List.append_assoc]
theorem len_join {ns : List Int} {n lo mid : Nat} {x : Int} (h1 : lo ≤ mid) (h3 : mid ≤ ns.length) : (ns.take lo ++ digs n (mid - lo) x ++ ns.drop mid).length = ns.length := by
  rw [List.length_append, List.length_append, List.length_take, digs_length, List.length_drop]; omega
theorem low_lt {x : Int} (k : Nat) : 0 ≤ x % 2 ^ k ∧ x % 2 ^ k < 2 ^ k :=
  ⟨Int.emod_nonneg _ (Int.ne_of_gt (Int.pow_pos (by decide))), Int.emod_lt_of_pos _ (Int.pow_pos (by decide))⟩
theorem high_lt {x : Int} {j k : Nat} (h0 : 0 ≤ x) (h : x < 2 ^ (j + k)) : 0 ≤ x / 2 ^ j ∧ x / 2 ^ j < 2 ^ k := by
  have hp : (0 : Int) < 2 ^ j := Int.pow_pos (by decide)
  refine ⟨Int.ediv_nonneg h0 (Int.le_of_lt hp), ?_⟩
  rw [Int.ediv_lt_iff_lt_mul hp, ← Int.pow_add, Nat.add_comm]
  exact h
theorem sh_eq {d n : Int} (hd : 0 ≤ d) (hn : 0 ≤ n) : (d * n).toNat = n.toNat * d.toNat := by
  have : d * n = ((n.toNat * d.toNat : Nat) : Int) := by
    rw [Int.natCast_mul, Int.toNat_of_nonneg hd, Int.toNat_of_nonneg hn, Int.mul_comm]
  rw [this, Int.toNat_natCast]
theorem pow_mono {a b : Nat} (h : a ≤ b) : (2 : Int) ^ a ≤ 2 ^ b := by
  have : (2 : Nat) ^ a ≤ 2 ^ b := Nat.pow_le_pow_right (by decide) h
  have h2 := Int.ofNat_le.mpr this
  simpa using h2
theorem digs_pad {n : Nat} (c : Nat) {x : Int} (hn : 0 < n) (h : 0 ≤ x) : (digs n (ndig n x) x ++ (List.replicate c [(0 : Int)]).flatten).take c = digs n c x := by
  have e : x / 2 ^ (n * ndig n x) = 0 := Int.ediv_eq_zero_of_lt h (Int.lt_of_lt_of_le (lt_pow_bits h) (pow_mono (ndig_ge hn)))
  have e2 : digs n (ndig n x) x ++ (List.replicate c [(0 : Int)]).flatten = digs n c x ++ digs n (ndig n x) (x / 2 ^ (n * c)) := by
    rw [zeros_digs n, ← digs_add, Nat.add_comm, digs_add, e]
  rw [e2, List.take_append_of_le_length (by rw [digs_length]; exact Nat.le_refl _), List.take_of_length_le (by rw [digs_length]; exact Nat.le_refl _)]
open PySem.Builtin.Int (intBits) in
theorem bits_pos {b : Int} (h : 0 < b) : 0 < intBits b := by
  rcases Nat.eq_zero_or_pos (intBits b) with e | e
  · have := lt_pow_bits (Int.le_of_lt h)
    rw [e] at this
    simp at this; omega
  · exact e
open PySem.Builtin.Int (intBits) in
theorem quot_lt' {x b k : Int} (hb : 0 < b) (hx : x = k * b) (hk : k ≤ 4) : x < 2 ^ (intBits b + 2) := by
  have h1 := lt_pow_bits (Int.le_of_lt hb)
  have h2 : k * b ≤ 4 * b := Int.mul_le_mul_of_nonneg_right hk (Int.le_of_lt hb)
  have e : (2 : Int) ^ (intBits b + 2) = 2 ^ intBits b * 4 := by rw [Int.pow_add]; rfl
  rw [e]; omega
open PySem.Builtin.Int (intBits) in
theorem quot_lt {x b k : Int} (hb : 0 < b) (hx : x = k * b) (hk : k ≤ 4) : x < 2 ^ (64 * (intBits b : Int).toNat) := by
  have hp := bits_pos hb
  rw [Int.toNat_natCast]
  exact Int.lt_of_lt_of_le (quot_lt' hb hx hk) (pow_mono (by omega))
open PySem.Builtin.Int (intBits) in
theorem quot_ndig {x b k : Int} (hb : 0 < b) (hx : x = k * b) (hk1 : 1 ≤ k) (hk : k ≤ 4) :
    ndig (intBits b : Int).toNat x = 1 ∨ ndig (intBits b : Int).toNat x = 2 ∨ ndig (intBits b : Int).toNat x = 3 := by
  have hp := bits_pos hb
  rw [Int.toNat_natCast]
  have hx0 : 0 < x := by
    have : 1 * b ≤ k * b := Int.mul_le_mul_of_nonneg_right hk1 (Int.le_of_lt hb)
    omega
  have h1 : intBits x ≤ intBits b + 2 := bits_of_lt (Int.le_of_lt hx0) (quot_lt' hb hx hk)
  have h2 : ndig (intBits b) x ≤ 3 := ndig_le hp (by omega)
  have h3 : 0 < ndig (intBits b) x := by
    rcases Nat.eq_zero_or_pos (ndig (intBits b) x) with e | e
    · have h4 := ndig_ge (x := x) hp
      rw [e, Nat.mul_zero] at h4
      have := bits_pos hx0
      omega
    · exact e
  omega
end Mine
end
section
theorem Mine.off_C1 : True := by
  w_top off
  trivial
open PySem PySem.W PySem.Spec PySem.Calls PyProof.Rows
set_option Elab.async false
set_option maxRecDepth 100000
set_option maxHeartbeats 8000000
namespace Mine
noncomputable abbrev VW : Program := topProg
noncomputable abbrev LO : List Str := looseW Mine.hd.view_39 [] ++ List.map (fun x => x.name) (recsOf Mine.hd.view_39) ++ List.map (fun x => x.1) (litsOf Mine.hd.view_39) ++ List.map (fun x => x.name) (clssOf Mine.hd.view_39 (looseW Mine.hd.view_39 []))
theorem log2_lt_of_lt {b : Int} {k : Nat} (h0 : 0 < b) (h : b < 2 ^ k) : b.natAbs.log2 < k := by
  have hb : b.natAbs ≠ 0 := by omega
  rw [Nat.log2_lt hb]
  have : (b.natAbs : Int) = b := by omega
  have h2 : ((b.natAbs : Nat) : Int) < ((2 ^ k : Nat) : Int) := by rw [this]; simpa using h
  exact Int.ofNat_lt.mp h2
theorem div2n1n_spec (w : World) (mean : ExcName → Option Value) (mg mb : Str → Option Value) :
  ∀ (dp un : Nat) (gd : Option (List Code)) (cn : Str) (cs : Scope) (a : Addr) (ccd : Value) (cl : List (Str × Addr)) (outer : List Env) (A₀ : Around) (base h₀ : Heap) (L : Addr) (m : Str → Option Value) (news : List (Addr × Obj)) (s : Shared) (x b n : Int) (tx tb tn : Tok)
    (Q E : Value → Shared → Prop),
    Below A₀ base outer h₀ → Fr h₀ L s.heap m → (Mine.hd.heap_39 w.params).In h₀ → News h₀ L s.heap news → Top VW LO mean mg mb h₀ → cs.kind = .function → 
    0 ≤ x → 0 < b → b < 2 ^ 4000 → (Builtin.Int.intBits x : Int) - n ≤ 4000 →
    dp + 2 < recursionLimit → un + 8 < cLine →
    (∀ l h' t t' tk', Fr h₀ L h' m → News h₀ L h' ((l, { cls := .type "tuple", data := .seq #[.int (x.fdiv b) t, .int (x.fmod b) t'] }) :: news) → (∀ q ∈ news, q.1 < l) → Q (.ref l) { s with heap := h', toks := tk' }) →
    wpAny (model PySem.Challenge.rw_ph0116_01.row.prog w) (ktrTop dp un gd cn cs L a ccd cl outer) (call (.ref 21) [.int x tx, .int b tb, .int n tn]) Q E s := by
  k_fill
  intro dp un gd cn cs a ccd cl outer A₀ base h₀ L m news s x b n tx tb tn Q E B F X N T hk hx hb hb2 hbits hd hu hret
  have hlog := log2_lt_of_lt hb hb2
  refine wpAny_call ?_
  k_dflt ktr_enter
  k_steps
  (rename News _ _ _ _ => N8)
  have hlt9 : ∀ q ∈ news, q.1 < _ := fun q hq => Heap.lt_size (News.get N8 hq)
  refine divmod_N (by assumption) N8 (by omega) ?_ (Or.inl (PyProof.noPylong_of_log2 (by omega)))
  intro h9 F9 N9
  k_steps
  exact hret _ _ _ _ _ (by k_asm) (by k_asm) hlt9
end Mine
end
section
theorem Mine.off_E1 : True := by
  w_top off
  trivial
open PySem PySem.W PySem.Spec PySem.Calls PyProof.Rows
set_option maxRecDepth 100000
namespace Mine
/-- entering a plain def: what the ledger does not name is kept from the call on -/
theorem enter_keep {prog : Program} {w : World} {A₀ A : Around} {s : Shared} {base h₀ : Heap} {outer : List Env} {L : Addr} {m mg mb : Str → Option Value} {env : Env} {news : List (Addr × Obj)} {K : Frag} {p : Program} {loose : List Str} {mean : ExcName → Option Value}
    {R : Result → Shared → Prop} {name qual : Str} {params : Arguments} {body : List Stmt} {scope : Scope} {dV kV doc pm cdv ct oc : Value} {an od : Option Addr} {osl : Array (Option Value)} {f : Addr} {args : Args} {binds : List (Str × Value)}
    (B : Below A₀ base outer h₀) (F : Fr h₀ L s.heap m) (X₀ : K.In h₀) (N : News h₀ L s.heap news) (T : Top p loose mean mg mb h₀) (hA : A.frames = some (env :: outer)) (hf : env.frame = some L) (hke : env.scope.kind = .function)
    (ho : K.lookup f = some ⟨oc, od, .func (fnOf name qual params body scope dV kV doc pm an cdv ct), osl⟩) (hcd : codeIn K cdv qual = true) (hroom : A.depth < recursionLimit)
    (hbind : BindsTo s (fnOf name qual params body scope dV kV doc pm an cdv ct) args binds) (hloc : ∀ y ∈ binds, scope.names.lookup y.1 = some .local)
    (h : ∀ g L' h₁, (∀ b o, b ∉ news.map (·.1) → s.heap.get? b = some o → g.get? b = some o) → s.heap.objs.size = L' → Fr h₀ L g m → Fr g L' h₁ (fun y => binds.reverse.lookup y) → News g L' h₁ news → Below A base (env :: outer) g → K.In g → Top p loose mean mg mb g →
      wpAny (model prog w) (A.deeper (envOf qual scope L' f cdv)) (execs body (envOf qual scope L' f cdv))
        (fun fl s' => LeaveK h₀ L m g R (match fl with | .ret v => v | _ => .none) s')
        (fun e s' => wpAny (model prog w) (A.deeper (envOf qual scope L' f cdv)) (leaving (envOf qual scope L' f cdv) e) (fun _ s'' => R (.error e) s'') (fun e' s'' => R (.error e') s'') s')
        { s with heap := h₁, toks := s.toks + binds.length })
    (hco : scope.isCoroutine = false) (hgen : scope.isGenerator = false) (hk : scope.kind = .function)
    (hcell : ∀ x ∈ scope.names, x.2 ≠ .cell) : codeAny (model prog w) A (.call (.ref f) args) R s := by
  have XS := X₀.keeps F.keep
  obtain ⟨fr, bel, stays, back⟩ := groundX (R := R) B F N hA hf hke
  refine codeAny_call_def (binds := binds) hroom (XS _ _ ho) rfl (T.nolimit.keeps F.keep) (codeRec_of XS hcd) rfl hbind hcell hloc (fun h₁ hns kept => ?_) hco hgen hk
  have FG : Fr (hideAll s.heap (news.map (·.1))) s.heap.objs.size h₁ (fun y => binds.reverse.lookup y) := ⟨hns, fun b o e => kept b o (of_hideAll _ e), Nat.le_of_eq (hideAll_size _ _)⟩
  have NG : News (hideAll s.heap (news.map (·.1))) s.heap.objs.size h₁ news := fun q hq => ⟨kept _ _ (N q hq).1, Nat.ne_of_lt (Heap.lt_size (N q hq).1), hideAll_none _ (List.mem_map_of_mem hq)⟩
  exact wpAny_mono (h _ _ h₁ (fun b o hb e => hideAll_get _ e hb) rfl fr FG NG bel (X₀.keeps stays) (T.keeps stays)) (fun fl s' hl => back _ _ hl) fun _ _ y => y
/-- the ledger of the caller, behind a call that kept what it does not name -/
theorem news_keep {h₀ h h' g : Heap} {L L' : Addr} {m' : Str → Option Value} {mine rest : List (Addr × Obj)} (N : News h₀ L h rest) (hk : ∀ b o, b ∉ mine.map (·.1) → h.get? b = some o → g.get? b = some o) (F : Fr g L' h' m') (hd : ∀ q ∈ rest, q.1 ∉ mine.map (·.1)) :
    News h₀ L h' rest := fun q hq => ⟨F.keep _ _ (hk _ _ (hd q hq) (N q hq).1), (N q hq).2⟩
theorem firstFour {h₀ h : Heap} {L : Addr} {a b c d : Addr × Obj} {r : List (Addr × Obj)} (N : News h₀ L h (a :: b :: c :: d :: r)) : News h₀ L h [a, b, c, d] := fun p hp => by
  rcases List.mem_cons.mp hp with rfl | hp
  · exact N _ (.head _)
  rcases List.mem_cons.mp hp with rfl | hp
  · exact N _ (.tail _ (.head _))
  rcases List.mem_cons.mp hp with rfl | hp
  · exact N _ (.tail _ (.tail _ (.head _)))
  rcases List.mem_cons.mp hp with rfl | hp
  · exact N _ (.tail _ (.tail _ (.tail _ (.head _))))
  cases hp
theorem lastOf : ∀ {r : List (Addr × Obj)}, r ≠ [] → ∃ z ∈ r, ∀ q ∈ r, @LE.le Nat _ q.1 z.1
  | [], h => absurd rfl h
  | [p], _ => ⟨p, .head _, fun q hq => by rcases List.mem_cons.mp hq with rfl | hq; exact Nat.le_refl _; cases hq⟩
  | p :: p' :: r, _ => by
    obtain ⟨z, hz, hl⟩ := lastOf (r := p' :: r) (by simp)
    rcases Nat.le_total p.1 z.1 with h | h
    · exact ⟨z, .tail _ hz, fun q hq => by
        rcases List.mem_cons.mp hq with rfl | hq
        · exact h
        · exact hl q hq⟩
    · exact ⟨p, .head _, fun q hq => by
        rcases List.mem_cons.mp hq with rfl | hq
        · exact Nat.le_refl _
        · exact Nat.le_trans (hl q hq) h⟩
theorem firstFive {h₀ h : Heap} {L : Addr} {a b c d z : Addr × Obj} {r : List (Addr × Obj)} (N : News h₀ L h (a :: b :: c :: d :: r)) (hz : z ∈ r) : News h₀ L h [a, b, c, d, z] := fun p hp => by
  rcases List.mem_cons.mp hp with rfl | hp
  · exact N _ (.head _)
  rcases List.mem_cons.mp hp with rfl | hp
  · exact N _ (.tail _ (.head _))
  rcases List.mem_cons.mp hp with rfl | hp
  · exact N _ (.tail _ (.tail _ (.head _)))
  rcases List.mem_cons.mp hp with rfl | hp
  · exact N _ (.tail _ (.tail _ (.tail _ (.head _))))
  rcases List.mem_cons.mp hp with rfl | hp
  · exact N _ (.tail _ (.tail _ (.tail _ (.tail _ hz))))
  cases hp
theorem news_app {h₀ h : Heap} {L : Addr} {a b : List (Addr × Obj)} (N : News h₀ L h a) (M : News h₀ L h b) : News h₀ L h (a ++ b) := fun q hq => (List.mem_append.mp hq).elim (N q) (M q)
end Mine
end
section
theorem Mine.off_E2 : True := by
  w_top off
  trivial
open PySem PySem.W PySem.Spec PySem.Calls PyProof.Rows
set_option Elab.async false
set_option maxRecDepth 100000
set_option maxHeartbeats 8000000
namespace Mine
theorem step_bits {r d b : Int} (hr0 : 0 ≤ r) (hr : r < b) (hd0 : 0 ≤ d) (hd : d < 2 ^ Builtin.Int.intBits b) (hb : b < 2 ^ 4000) :
    0 ≤ r * 2 ^ (Builtin.Int.intBits b : Int).toNat + d ∧ r * 2 ^ (Builtin.Int.intBits b : Int).toNat + d < b * 2 ^ Builtin.Int.intBits b ∧ (Builtin.Int.intBits (r * 2 ^ (Builtin.Int.intBits b : Int).toNat + d) : Int) - Builtin.Int.intBits b ≤ 4000 := by
  rw [Int.toNat_natCast]
  have hp : (0 : Int) < 2 ^ Builtin.Int.intBits b := Int.pow_pos (by decide)
  have h1 : 0 ≤ r * 2 ^ Builtin.Int.intBits b := Int.mul_nonneg hr0 (Int.le_of_lt hp)
  have h2 : (r + 1) * 2 ^ Builtin.Int.intBits b ≤ b * 2 ^ Builtin.Int.intBits b := Int.mul_le_mul_of_nonneg_right (by omega) (Int.le_of_lt hp)
  rw [Int.add_mul, Int.one_mul] at h2
  have hb1 : Builtin.Int.intBits b ≤ 4000 := bits_of_lt (by omega) hb
  have h3 : b * 2 ^ Builtin.Int.intBits b ≤ 2 ^ Builtin.Int.intBits b * 2 ^ Builtin.Int.intBits b := Int.mul_le_mul_of_nonneg_right (Int.le_of_lt (lt_pow_bits (by omega))) (Int.le_of_lt hp)
  rw [← Int.pow_add] at h3
  refine ⟨by omega, by omega, ?_⟩
  have h4 := bits_of_lt (x := r * 2 ^ Builtin.Int.intBits b + d) (k := Builtin.Int.intBits b + Builtin.Int.intBits b) (by omega) (by omega)
  omega
theorem step_quot {x b : Int} {k : Nat} (hx : 0 ≤ x) (hb : 0 < b) (hxb : x < b * 2 ^ k) : x.fdiv b * b + x.fmod b = x ∧ 0 ≤ x.fmod b ∧ x.fmod b < b ∧ 0 ≤ x.fdiv b ∧ x.fdiv b < 2 ^ k := by
  rw [Int.fdiv_eq_ediv_of_nonneg _ (Int.le_of_lt hb), Int.fmod_eq_emod_of_nonneg _ (Int.le_of_lt hb)]
  refine ⟨?_, Int.emod_nonneg _ (Int.ne_of_gt hb), Int.emod_lt_of_pos _ hb, Int.ediv_nonneg hx (Int.le_of_lt hb), ?_⟩
  · rw [Int.mul_comm]; exact Int.mul_ediv_add_emod x b
  · rw [Int.ediv_lt_iff_lt_mul hb, Int.mul_comm]; exact hxb
theorem div_step (w : World) (mean : ExcName → Option Value) (mg mb : Str → Option Value) :
  ∀ (dp un : Nat) (gd : Option (List Code)) (cn : Str) (cs : Scope) (a : Addr) (ccd : Value) (cl : List (Str × Addr)) (outer : List Env) (A₀ : Around) (base h₀ : Heap) (L : Addr) (m : Str → Option Value) (news : List (Addr × Obj)) (s : Shared) (r d b : Int) (tx tb tn : Tok)
    (Q E : Value → Shared → Prop),
    Below A₀ base outer h₀ → Fr h₀ L s.heap m → (Mine.hd.heap_39 w.params).In h₀ → News h₀ L s.heap news → Top VW LO mean mg mb h₀ → cs.kind = .function →
    0 < b → b < 2 ^ 4000 → 0 ≤ r → r < b → 0 ≤ d → d < 2 ^ Builtin.Int.intBits b →
    dp + 2 < recursionLimit → un + 8 < cLine →
    (∀ q r', q * b + r' = r * 2 ^ Builtin.Int.intBits b + d → 0 ≤ r' → r' < b → 0 ≤ q → q < 2 ^ Builtin.Int.intBits b → ∀ l h' t t' tk', Fr h₀ L h' m → News h₀ L h' ((l, { cls := .type "tuple", data := .seq #[.int q t, .int r' t'] }) :: news) → (∀ q ∈ news, q.1 < l) → Q (.ref l) { s with heap := h', toks := tk' }) →
    wpAny (model PySem.Challenge.rw_ph0116_01.row.prog w) (ktrTop dp un gd cn cs L a ccd cl outer) (call (.ref 21) [.int (r * 2 ^ (Builtin.Int.intBits b : Int).toNat + d) tx, .int b tb, .int (Builtin.Int.intBits b) tn]) Q E s := by
  intro dp un gd cn cs a ccd cl outer A₀ base h₀ L m news s r d b tx tb tn Q E B F X N T hk hb hb2 hr0 hr hd0 hd hdp hun hret
  obtain ⟨z1, z2, z3⟩ := step_bits hr0 hr hd0 hd hb2
  obtain ⟨y1, y2, y3, y4, y5⟩ := step_quot z1 hb z2
  refine div2n1n_spec w mean mg mb _ _ _ _ _ _ _ _ _ _ _ _ _ _ _ _ _ _ _ _ _ _ _ _ B F X N T hk z1 hb hb2 z3 hdp hun ?_
  intro l h' t t' tk' F' N' hl
  rw [Int.toNat_natCast] at y1
  exact hret _ _ (by rw [Int.toNat_natCast]; exact y1) y2 y3 y4 y5 l h' t t' tk' F' N' hl
end Mine
end
section
open PySem PySem.W PySem.Spec PySem.Calls PyProof.Rows
set_option maxRecDepth 100000
namespace Mine
theorem dm_uniq {q r k b : Int} (hb : 0 < b) (h : q * b + r = k * b) (h0 : 0 ≤ r) (h1 : r < b) : q = k ∧ r = 0 := by
  have e : q = k := by
    rcases Int.lt_trichotomy q k with h2 | h2 | h2
    · have : (q + 1) * b ≤ k * b := Int.mul_le_mul_of_nonneg_right (by omega) (Int.le_of_lt hb)
      rw [Int.add_mul, Int.one_mul] at this; omega
    · exact h2
    · have : (k + 1) * b ≤ q * b := Int.mul_le_mul_of_nonneg_right (by omega) (Int.le_of_lt hb)
      rw [Int.add_mul, Int.one_mul] at this; omega
  subst e
  exact ⟨rfl, by omega⟩
theorem dm_news {h₀ h h' g : Heap} {L L' : Addr} {m' : Str → Option Value} {t a b c d q z : Addr × Obj} {rest : List (Addr × Obj)} (N : News h₀ L h (a :: b :: c :: d :: rest)) (hz : z ∈ rest)
    (kp : ∀ x o, x ∉ [a, b, c, d, z].map (·.1) → h.get? x = some o → g.get? x = some o) (F : Fr g L' h' m') (kN : News h₀ L h' [t, c, d, q, a, b, z]) (hne : ∀ p ∈ rest, p.1 ≠ a.1 ∧ p.1 ≠ c.1 ∧ p.1 ≠ b.1 ∧ p.1 ≠ d.1) :
    News h₀ L h' (t :: a :: b :: c :: d :: rest) := by
  refine List.forall_mem_cons.mpr ⟨kN _ (.head _), List.forall_mem_cons.mpr ⟨kN _ (by simp), List.forall_mem_cons.mpr ⟨kN _ (by simp), List.forall_mem_cons.mpr ⟨kN _ (by simp), List.forall_mem_cons.mpr ⟨kN _ (by simp), fun p hp => ?_⟩⟩⟩⟩⟩
  have n1 := N p (.tail _ (.tail _ (.tail _ (.tail _ hp))))
  have n2 := N z (.tail _ (.tail _ (.tail _ (.tail _ hz))))
  by_cases e : p.1 = z.1
  · have : p = z := by
      have h1 := n1.1
      rw [e, n2.1] at h1
      exact Prod.ext e (Option.some.inj h1).symm
    rw [this]
    exact kN _ (by simp)
  · obtain ⟨i1, i2, i3, i4⟩ := hne _ hp
    exact ⟨F.keep _ _ (kp _ _ (by simp only [List.map_cons, List.map_nil, List.mem_cons, List.not_mem_nil, or_false]; rintro (h | h | h | h | h) <;> contradiction) n1.1), n1.2⟩
theorem dm_fresh {a b c d z : Addr × Obj} {D : Addr} {rest : List (Addr × Obj)} (ha : @LT.lt Nat _ a.1 D) (hb : @LT.lt Nat _ b.1 D) (hc : @LT.lt Nat _ c.1 D) (hd : @LT.lt Nat _ d.1 D) (hz : @LT.lt Nat _ z.1 D) (hl : ∀ q ∈ rest, @LE.le Nat _ q.1 z.1) : ∀ q ∈ a :: b :: c :: d :: rest, @LT.lt Nat _ q.1 D :=
  List.forall_mem_cons.mpr ⟨ha, List.forall_mem_cons.mpr ⟨hb, List.forall_mem_cons.mpr ⟨hc, List.forall_mem_cons.mpr ⟨hd, fun q hq => Nat.lt_of_le_of_lt (hl q hq) hz⟩⟩⟩⟩
theorem dg {x : Int} {b : Int} : 0 ≤ x % 2 ^ (Builtin.Int.intBits b : Int).toNat ∧ x % 2 ^ (Builtin.Int.intBits b : Int).toNat < 2 ^ Builtin.Int.intBits b := by
  rw [Int.toNat_natCast]; exact low_lt _
theorem lt_ndig {x b : Int} {d : Nat} (hx : 0 ≤ x) (hb : 0 < b) (h : ndig (Builtin.Int.intBits b : Int).toNat x = d) : x < 2 ^ ((Builtin.Int.intBits b : Int).toNat * d) := by
  have hp := bits_pos hb
  rw [← h, Int.toNat_natCast]
  exact Int.lt_of_lt_of_le (lt_pow_bits hx) (pow_mono (ndig_ge hp))
end Mine
end
section
open PySem PySem.W PySem.Spec PySem.Calls PyProof.Rows
open Sem (wp)
set_option Elab.async false
set_option maxRecDepth 100000
namespace Mine
section
variable {prog : Program} {w : World} {A : Around} {R : GenEnd} {Y : Protocol} {n : Nat} {s₀ : Shared} {c : Code} {fs : List Frame} {s : Shared} {env : Env}
  {K : Flow → Sem Fin} {H : Value → Sem Fin} {gd : Bool → Bool} {lv : List Value → List Value}

/-- a statement that does not yield, inside a generator -/
theorem sg_plain {st : Stmt} {rest : List Stmt} (h : wpAny (model prog w) (A.over c fs) (exec st env) (fun f s' => f = .next ∧ Seg (model prog w) A R Y n s₀ c ((execs rest env).wrap K H gd lv) fs s') (fun _ _ => False) s) :
    Seg (model prog w) A R Y n s₀ c ((execs (st :: rest) env).wrap K H gd lv) fs s := by
  refine seg_execs_cons (seg_wrap (wpAny_mono h (fun f s' hf => ?_) fun _ _ h => h.elim))
  obtain ⟨rfl, hf⟩ := hf
  exact hf
/-- an if inside a generator: the test is plain -/
theorem sg_if {test : Expr} {body orelse : List Stmt} {pos : Pos} (h : wpAny (model prog w) (A.over c fs) (isTrue test env (eval test env)) (fun b s' => Seg (model prog w) A R Y n s₀ c ((execs (if b = true then body else orelse) env).wrap K H gd lv) fs s') (fun _ _ => False) s) :
    Seg (model prog w) A R Y n s₀ c ((exec (.If test body orelse pos) env).wrap K H gd lv) fs s := by
  rw [exec_If]
  refine seg_at ?_
  show Seg _ A R Y n s₀ c (Sem.wrap K H gd lv (isTrue test env (eval test env) >>= fun b => if b = true then execs body env else execs orelse env)) fs s
  refine seg_bind_wrap (wpAny_mono h (fun b s' hb => ?_) fun _ _ h => h.elim)
  cases b <;> simpa using hb
theorem sg_for {target iter : Expr} {body : List Stmt} {pos : Pos} (hs : ∀ x, foldedSetIterable iter env x = pure x)
    (h : wpAny (model prog w) (A.over c fs) (eval iter env) (fun xv s₁ => wpAny (model prog w) (A.over c fs) (pyIter xv) (fun it s₂ =>
      ∀ k p, (∀ f, k (.ok f) = K f) → Seg (model prog w) A R Y n s₀ (.forLoop target it body [] env) ((model prog w).den (.forLoop target it body [] env)) (.ret k none (gd false) (lv []) c p [] :: fs) s₂) (fun _ _ => False) s₁) (fun _ _ => False) s) :
    Seg (model prog w) A R Y n s₀ c ((exec (.For target iter body [] pos) env).wrap K H gd lv) fs s := by
  rw [exec_For]
  refine seg_at ?_
  show Seg _ A R Y n s₀ c (Sem.wrap K H gd lv (eval iter env >>= fun v => foldedSetIterable iter env v >>= fun x => standAt iter.pos >>= fun _ => holding [x] (pyIter x) >>= fun it => runOwn (.forLoop target it body [] env) env)) fs s
  refine seg_bind_wrap (wpAny_mono h (fun xv s₁ h₁ => ?_) fun _ _ h => h.elim)
  refine seg_bind_wrap (wpAny_of_eq (hs xv) ?_)
  refine seg_bind_wrap (wpAny_standAt ?_)
  refine seg_bind_wrap (wpAny_holding (wpAny_mono h₁ (fun it s₂ h₂ => ?_) fun _ _ h => h.elim))
  exact seg_call fun p => h₂ _ p (fun f => rfl)
theorem sg_turn {target : Expr} {it : Value} {body : List Stmt}
    (h : wpAny (model prog w) (A.over (.forLoop target it body [] env) fs) (pyNext it) (fun r s₁ => match r with
      | none => Seg (model prog w) A R Y n s₀ (.block [] env) (.pure (.done .next)) fs s₁
      | some v => wpAny (model prog w) (A.over (.forLoop target it body [] env) fs) (letOwnedTupleGo target it v) (fun _ s₂ => wpAny (model prog w) (A.over (.forLoop target it body [] env) fs) (assign target env v) (fun _ s₃ =>
          ∀ H', Seg (model prog w) A R Y n s₀ (.forLoop target it body [] env) ((execs body env).wrap (fun f => match f with
            | .next | .cont => .pure (.again (.forLoop target it body [] env))
            | .brk => .pure (.done .next)
            | .ret v => .pure (.done (.ret v))) H' id id) fs s₃) (fun _ _ => False) s₂) (fun _ _ => False) s₁) (fun _ _ => False) s) :
    Seg (model prog w) A R Y n s₀ (.forLoop target it body [] env) ((model prog w).den (.forLoop target it body [] env)) fs s := by
  show Seg _ A R Y n s₀ _ ((forTurn target it body [] env).onRaise (fun x => do noteFrame x env; theTreesLotGoes x)) fs s
  rw [Sem.onRaise_eq_wrap]
  unfold forTurn
  refine seg_bind_wrap (wpAny_standAt ?_)
  refine seg_bind_wrap (wpAny_onRaise (wpAny_mono h (fun r s₁ h₁ => ?_) fun _ _ h => h.elim))
  cases r with
  | none => exact seg_again rfl h₁
  | some v =>
    refine seg_bind_wrap (wpAny_mono h₁ (fun _ s₂ h₂ => ?_) fun _ _ h => h.elim)
    refine seg_bind_wrap (wpAny_mono h₂ (fun _ s₃ h₃ => ?_) fun _ _ h => h.elim)
    rw [Sem.bind_eq_wrap', Sem.wrap_wrap]
    rw [Sem.wrap_congr (execs body env) _ _ (K' := fun f => match f with
            | .next | .cont => .pure (.again (.forLoop target it body [] env))
            | .brk => .pure (.done .next)
            | .ret v => .pure (.done (.ret v))) (fun f => by cases f <;> rfl) (fun e => rfl)]
    exact h₃ _
end
end Mine
end
section
open PySem PySem.W PySem.Spec PySem.Calls PyProof.Rows
open Sem (wp)
set_option Elab.async false
set_option maxRecDepth 100000
namespace Mine
def bsl : Str := Str.ofString "\\"
/-- what the generator of escaped signs hands out -/
def escs : Bool → List Nat → List Str
  | true, [] => [bsl]
  | false, [] => []
  | true, c :: r => (bsl ++ ⟨#[c]⟩) :: escs false r
  | false, c :: r => if ((⟨#[c]⟩ : Str) == bsl) = true then escs true r else ⟨#[c]⟩ :: escs false r
def GSince (z Lg : Addr) (s₀ s : Shared) : Prop := ∃ h' tk, s = { s₀ with heap := h', toks := tk } ∧ ∀ b o, b < z → b ≠ Lg → s₀.heap.get? b = some o → h'.get? b = some o
theorem GSince.refl (z Lg : Addr) (s : Shared) : GSince z Lg s s := ⟨s.heap, s.toks, rfl, fun _ _ _ _ e => e⟩
theorem GSince.step {z Lg : Addr} {s₀ s : Shared} (x : GSince z Lg s₀ s) {h' : Heap} {tk : Nat} (hk : ∀ b o, b < z → b ≠ Lg → s.heap.get? b = some o → h'.get? b = some o) : GSince z Lg s₀ { s with heap := h', toks := tk } := by
  obtain ⟨h₁, tk₁, rfl, hk₁⟩ := x
  exact ⟨h', tk, rfl, fun b o h1 h2 e => hk b o h1 h2 (hk₁ b o h1 h2 e)⟩
def KeepsAt (fp : List Addr) (h₀ h h' : Heap) : Prop := (∀ b ∈ fp, ∀ o, h.get? b = some o → h'.get? b = some o) ∧ ∀ b o, h₀.get? b = some o → h'.get? b = some o
def gProto (h₀ : Heap) (z Lg : Addr) (outs : List Str) : Protocol := fun m s₀ v s kap =>
  (∃ T p tp c tc, v = .ref T ∧ s.heap.IsTuple T #[.int p tp, .str c tc] ∧ outs[outs.length - 1 - m]? = some c) ∧ GSince z Lg s₀ s ∧
  ∃ fp : List Addr, (∀ b ∈ fp, b = Lg ∨ z ≤ b) ∧ (∀ b ∈ fp, ∃ o, s.heap.get? b = some o) ∧ ∀ s'', KeepsAt fp h₀ s.heap s''.heap → kap (.send .none) s''
abbrev gEnd (z Lg : Addr) : GenEnd := fun n s₀ r s₁ => r = .ok (.ret .none) ∧ (n = 0 ∧ GSince z Lg s₀ s₁)
/-- the frame of the generator, at the sign's number i -/
def GNs (Lg : Addr) (b : Bool) (h : Heap) : Prop := ∃ m, h.Ns Lg m ∧ m (Str.ofString "escape") = some (.bool b) ∧ ∃ p tp, m (Str.ofString "pos") = some (.int p tp)
structure GSt (x : Str) (tx : Tok) (Lg e it : Addr) (i : Nat) (b : Bool) (h : Heap) : Prop where
  ns : GNs Lg b h
  en : (∃ old, IsEnum h e it i old) ∧ h.IsStrIter it "str_ascii_iterator" x tx i
structure GEnv (env : Env) (z Lg e it : Addr) : Prop where
  hk : env.scope.kind = .function
  hL : env.locals = Lg
  hp : (env.scope.kind == .class || (env.scope.kind == .module && env.locals != env.globals)) = false
  hi : interactive env = false
  hco : env.scope.isCoroutine = false
  kpos : env.kindOf (Str.ofString "pos") = some .local
  kesc : env.kindOf (Str.ofString "escape") = some .local
  kch : env.kindOf (Str.ofString "ch") = some .local
  lz : Lg < z
  ze : z ≤ e
  zit : z ≤ it
  ne : e ≠ it
abbrev escBody (p1 p2 p3 p4 p5 p6 p7 p8 p9 p10 p11 p12 p13 p14 p15 p16 p17 p18 p19 p20 p21 p22 p23 p24 : Pos) (k1 k2 k3 k4 k5 k6 : Nat) : List Stmt :=
  [.If (.Name (Str.ofString "escape") p1) [.Expr (.Yield (some (.Tuple [.Name (Str.ofString "pos") p2, .BinOp (.Constant (.str bsl) k1 p3) .Add (.Name (Str.ofString "ch") p4) p5] k2 p6)) p7) p8, .Assign [.Name (Str.ofString "escape") p9] (.Constant (.bool false) k3 p10) p11]
    [.If (.Compare (.Name (Str.ofString "ch") p12) [.Eq] [.Constant (.str bsl) k4 p13] p14) [.Assign [.Name (Str.ofString "escape") p15] (.Constant (.bool true) k5 p16) p17] [.Expr (.Yield (some (.Tuple [.Name (Str.ofString "pos") p18, .Name (Str.ofString "ch") p19] k6 p20)) p21) p22] p23] p24]
abbrev escTgt (p25 p26 p27 : Pos) (k7 : Nat) : PySem.Expr := .Tuple [.Name (Str.ofString "pos") p25, .Name (Str.ofString "ch") p26] k7 p27

section
variable {prog : Program} {w : World} {A : Around} {fs : List Frame} {env : Env} {h₀ : Heap} {z Lg e it : Addr} {x : Str} {tx : Tok} {outs : List Str} {s₀ : Shared} {c : Code} {s : Shared} {n : Nat}
  {K : Flow → Sem Fin} {H : Value → Sem Fin}

/-- one yield of a tuple of two -/
theorem sg_yield {e1 e2 : PySem.Expr} {k : Nat} {pt py px : Pos} {x1 : Str} {p : Int} {tp : Tok} (hfs : splitAtGen fs = none) (hfg : fs.any Frame.guarded = false) (G : GEnv env z Lg e it) {m : Str → Option Value}
    (hS : GSince z Lg s₀ s) (hn : s.heap.Ns Lg m)
    (hev : wpAny (model prog w) (A.over c fs) (spliced (backTo pt (starEach [e1, e2] env))) (fun vs s₁ => ∃ t tk, vs = [.int p tp, .str x1 t] ∧ s₁ = { s with toks := tk }) (fun _ _ => False) s)
    (hout : outs[outs.length - 1 - n]? = some x1) (fp : List Addr) (hfp : ∀ b ∈ fp, b = Lg ∨ z ≤ b) (hlive : ∀ b ∈ fp, ∃ o, s.heap.get? b = some o)
    (next : ∀ s'', KeepsAt fp h₀ s.heap s''.heap → Seg (model prog w) A (gEnd z Lg) (gProto h₀ z Lg outs) n s'' c (K .next) fs s'') :
    Seg (model prog w) A (gEnd z Lg) (gProto h₀ z Lg outs) (n + 1) s₀ c ((exec (.Expr (.Yield (some (.Tuple [e1, e2] k pt)) py) px) env).wrap K H id id) fs s := by
  refine seg_Expr_Yield hfs rfl hfg (wpAny_mono (wpAny_Tuple (Q := fun v s' => ∃ t tk, v = .ref s.heap.objs.size ∧ s' = { s with toks := tk, heap := s.heap.push { cls := .type "tuple", data := .seq #[.int p tp, .str x1 t] } }) (E := fun _ _ => False) (wpAny_mono hev (fun vs s₁ hv => ?_) fun _ _ h => h.elim)) (fun v s' hv => ?_) fun _ _ h => h.elim) G.hco G.hi
  · obtain ⟨t, tk, rfl, rfl⟩ := hv
    refine ⟨by simp only [List.length_cons, List.length_nil]; exact (by decide +kernel : 2 ≤ sizeLine), t, tk, rfl, rfl⟩
  · obtain ⟨t, tk, rfl, rfl⟩ := hv
    intro kap hkap
    refine ⟨⟨_, p, tp, x1, t, rfl, ⟨_, Heap.get?_push_size _ rfl, rfl, _, rfl⟩, hout⟩, hS.step fun b o _ _ ho => Heap.get?_push_of_some _ ho, fp, hfp, fun b hb => ?_, fun s'' hs => hkap _ s'' (next s'' ⟨fun b hb o ho => hs.1 b hb o (Heap.get?_push_of_some _ ho), hs.2⟩)⟩
    obtain ⟨o, ho⟩ := hlive b hb
    exact ⟨o, Heap.get?_push_of_some _ ho⟩
end
end Mine
end
section
open PySem PySem.W PySem.Spec PySem.Calls PyProof.Rows
open Sem (wp)
set_option Elab.async false
set_option maxRecDepth 100000
namespace Mine
theorem suf_get {α : Type} {outs pre r : List α} {a : α} (h : outs = pre ++ a :: r) : outs[outs.length - 1 - r.length]? = some a := by
  subst h
  have e : (pre ++ a :: r).length - 1 - r.length = pre.length := by simp only [List.length_append, List.length_cons]; omega
  rw [e, List.getElem?_append_right (Nat.le_refl _), Nat.sub_self]; rfl
theorem suf_next {α : Type} {outs pre r : List α} {a : α} (h : outs = pre ++ a :: r) : outs = (pre ++ [a]) ++ r := by subst h; simp
section
variable {prog : Program} {w : World} {A : Around} {fs : List Frame} {env : Env} {h₀ : Heap} {z Lg e it : Addr} {x : Str} {tx : Tok} {outs : List Str} {s₀ : Shared} {c : Code} {s : Shared} {n : Nat}
  {K : Flow → Sem Fin} {H : Value → Sem Fin}
theorem ev_name {y : Str} {m : Str → Option Value} {v : Value} {pos : Pos} {A' : Around} {E : Value → Shared → Prop} {Q : Value → Shared → Prop} (hk : env.scope.kind = .function) (hl : env.kindOf y = some .local) (hn : s.heap.Ns env.locals m) (hv : m y = some v) (hd : (y == ("__debug__" : Str)) = false) (h : Q v s) :
    wpAny (model prog w) A' (eval (.Name y pos) env) Q E s := wpAny_Name (wpAny_loadName_local hk hl hn hv h) hd
theorem ev_set {y : Str} {v : PySem.Expr} {m : Str → Option Value} {b : Bool} {p1 pos : Pos} {A' : Around} {E : Value → Shared → Prop} {Q : Flow → Shared → Prop} (hl : env.kindOf y = some .local) (hp : (env.scope.kind == .class || (env.scope.kind == .module && env.locals != env.globals)) = false) (hn : s.heap.Ns env.locals m)
    (hv : wpAny (model prog w) A' (eval v env) (fun r s' => r = .bool b ∧ s' = s) E s) (hs : swapsWith v (some (.Name y p1)) pos.line env = pure false)
    (h : ∀ h', h'.Ns env.locals (fun q => if q = y then some (.bool b) else m q) → Heap.SameBut env.locals s.heap h' → Q .next { s with heap := h', toks := s.toks + 1 }) : wpAny (model prog w) A' (exec (.Assign [.Name y p1] v pos) env) Q E s :=
  wpAny_Assign_Name (wpAny_mono hv (fun r s' e => by obtain ⟨rfl, rfl⟩ := e; exact wpAny_storeName_local hl hn h hp) fun _ _ x => x) hs
variable (p1 p2 p3 p4 p5 p6 p7 p8 p9 p10 p11 p12 p13 p14 p15 p16 p17 p18 p19 p20 p21 p22 p23 p24 p25 p26 p27 : Pos) (k1 k2 k3 k4 k5 k6 k7 : Nat)
theorem sg_loop (hfs : splitAtGen fs = none) (hfg : fs.any Frame.guarded = false) (hh : ∀ c, (A.over c fs).handled = none) (G : GEnv env z Lg e it)
    (after : ∀ b s₀ s, GNs Lg b s.heap → GSince z Lg s₀ s → (∃ pre, outs = pre ++ escs b []) → Seg (model prog w) A (gEnd z Lg) (gProto h₀ z Lg outs) (escs b []).length s₀ (.block [] env) (.pure (.done .next)) fs s) :
    ∀ (k i : Nat) (b : Bool) (s₀ s : Shared), x.cps.size - i = k → i ≤ x.cps.size → GSt x tx Lg e it i b s.heap → GSince z Lg s₀ s → (∃ pre, outs = pre ++ escs b (x.cps.toList.drop i)) →
      Seg (model prog w) A (gEnd z Lg) (gProto h₀ z Lg outs) (escs b (x.cps.toList.drop i)).length s₀ (.forLoop (escTgt p25 p26 p27 k7) (.ref e) (escBody p1 p2 p3 p4 p5 p6 p7 p8 p9 p10 p11 p12 p13 p14 p15 p16 p17 p18 p19 p20 p21 p22 p23 p24 k1 k2 k3 k4 k5 k6) [] env) ((model prog w).den (.forLoop (escTgt p25 p26 p27 k7) (.ref e) (escBody p1 p2 p3 p4 p5 p6 p7 p8 p9 p10 p11 p12 p13 p14 p15 p16 p17 p18 p19 p20 p21 p22 p23 p24 k1 k2 k3 k4 k5 k6) [] env)) fs s := by
  have hLe : Lg ≠ e := Nat.ne_of_lt (Nat.lt_of_lt_of_le G.lz G.ze)
  have hLi : Lg ≠ it := Nat.ne_of_lt (Nat.lt_of_lt_of_le G.lz G.zit)
  have nb : ∀ b, b < z → b ≠ Lg → b ∉ [e, it] := fun b h1 _ hm => by
    rcases List.mem_cons.mp hm with rfl | hm
    · exact absurd h1 (Nat.not_lt.mpr G.ze)
    · rw [List.mem_singleton.mp hm] at h1; exact absurd h1 (Nat.not_lt.mpr G.zit)
  have nL : Lg ∉ [e, it] := fun hm => by
    rcases List.mem_cons.mp hm with h | hm
    · exact hLe h
    · exact hLi (List.mem_singleton.mp hm)
  have W := WalksT.enumerateD (Draws.strAscii (prog := prog) (w := w) (A := (A.over (.forLoop (escTgt p25 p26 p27 k7) (.ref e) (escBody p1 p2 p3 p4 p5 p6 p7 p8 p9 p10 p11 p12 p13 p14 p15 p16 p17 p18 p19 p20 p21 p22 p23 p24 k1 k2 k3 k4 k5 k6) [] env) fs).in1) (hh (.forLoop (escTgt p25 p26 p27 k7) (.ref e) (escBody p1 p2 p3 p4 p5 p6 p7 p8 p9 p10 p11 p12 p13 p14 p15 p16 p17 p18 p19 p20 p21 p22 p23 p24 k1 k2 k3 k4 k5 k6) [] env)) it x tx) e G.ne (fun h => G.ne (List.mem_singleton.mp h)) (List.mem_singleton.mpr rfl)
  intro k
  induction k with
  | zero =>
    intro i b s₀ s hk hi hst hS hsuf
    have hin : i = x.cps.size := by omega
    subst hin
    have hnil : x.cps.toList.drop x.cps.size = [] := List.drop_of_length_le (by simp)
    rw [hnil] at hsuf ⊢
    refine sg_turn (W.done s _ _ hst.en fun h' tk hk' => ?_)
    obtain ⟨m, hn, h1, h2⟩ := hst.ns
    exact after b s₀ _ ⟨m, hn.at' fun o e => hk' _ o nL e, h1, h2⟩ (hS.step fun b o h1 h2 e => hk' b o (nb b h1 h2) e) hsuf
  | succ k ih =>
    intro i b s₀ s hk hi hst hS hsuf
    have hlt : i < x.cps.size := by omega
    have hdrop : x.cps.toList.drop i = x.cps[i] :: x.cps.toList.drop (i + 1) := by rw [List.drop_eq_getElem_cons (by simpa using hlt)]; simp
    rw [hdrop] at hsuf ⊢
    refine sg_turn (W.item i s _ _ hlt hst.en fun T vals h₁ tk₁ hPt hT hTup hMid hk₁ => ?_)
    obtain ⟨ti, v, ⟨cc, tc, hcc, rfl⟩, rfl⟩ := hPt
    have hce : cc = x.cps[i] := by rw [Array.getElem?_eq_getElem hlt] at hcc; exact (Option.some.inj hcc).symm
    subst hce
    refine W.go _ _ _ i T _ _ _ hMid fun h₂ hen₂ hk₂ => ?_
    obtain ⟨o2, hT2, r2⟩ := hTup
    have hTup₂ : h₂.IsTuple T #[.int (i : Int) ti, .str ⟨#[x.cps[i]]⟩ tc] := ⟨o2, hk₂ _ _ (W.apart _ _ _ hMid) hT2, r2⟩
    obtain ⟨m, hn, hm1, hm2⟩ := hst.ns
    have hn₂ : h₂.Ns Lg m := (hn.at' fun o e => hk₂ _ o nL (hk₁ _ o nL e))
    have hLs : Lg < h₂.objs.size := hn₂.lt
    refine wpAny_assign_Tuple (hh _) hTup₂ rfl rfl fun h₃ hx₃ => ?_
    replace hx₃ : Heap.ExtBut h₂.objs.size h₂ h₃ := hx₃
    have hn₃ : h₃.Ns env.locals m := by rw [G.hL]; exact hn₂.extBut hx₃ (Nat.ne_of_lt hLs)
    show wpAny _ _ (do holding [.str ⟨#[x.cps[i]]⟩ tc] (assign (.Name (Str.ofString "pos") p25) env (.int i ti)); do holding [] (assign (.Name (Str.ofString "ch") p26) env (.str ⟨#[x.cps[i]]⟩ tc)); pure ()) _ _ _
    refine wpAny_bind (wpAny_holding (wpAny_assign_Name (wpAny_storeName_local G.kpos hn₃ (fun h₄ hn₄ hs₄ => ?_) G.hp)))
    replace hs₄ : Heap.SameBut env.locals h₃ h₄ := hs₄
    refine wpAny_bind (wpAny_holding (wpAny_assign_Name (wpAny_storeName_local G.kch hn₄ (fun h₅ hn₅ hs₅ => wpAny_pure ?_) G.hp)))
    replace hs₅ : Heap.SameBut env.locals h₄ h₅ := hs₅
    rw [G.hL] at hs₄ hs₅
    have up : ∀ b o, b ≠ Lg → b < h₂.objs.size → h₂.get? b = some o → h₅.get? b = some o := fun b o h1 h2 e => hs₅.extBut b o h1 (hs₄.extBut b o h1 (hx₃ b o (Nat.ne_of_lt h2) e))
    have hen₅ : (∃ old, IsEnum h₅ e it ((i + 1 : Nat) : Int) old) ∧ h₅.IsStrIter it "str_ascii_iterator" x tx (i + 1) := W.frame _ _ _ hen₂ fun b hb o e => up b o (fun h => by
      subst h
      rcases List.mem_cons.mp hb with h | hb
      · exact hLe h
      · exact hLi (List.mem_singleton.mp hb)) (Heap.lt_size e) e
    have hS₅ : ∀ tk, GSince z Lg s₀ { s with heap := h₅, toks := tk } := fun tk => hS.step fun b o h1 h2 e => up b o h2 (Heap.lt_size (hk₂ _ _ (nb b h1 h2) (hk₁ _ _ (nb b h1 h2) e))) (hk₂ _ _ (nb b h1 h2) (hk₁ _ _ (nb b h1 h2) e))
    intro H'
    have hv5 : (fun q => if q = Str.ofString "ch" then some (Value.str ⟨#[x.cps[i]]⟩ tc) else (fun q => if q = Str.ofString "pos" then some (Value.int i ti) else m q) q) (Str.ofString "escape") = some (.bool b) := by
      show (if _ then _ else (if _ then _ else _)) = _
      rw [if_neg (by decide +kernel), if_neg (by decide +kernel)]; exact hm1
    have hp5 : (fun q => if q = Str.ofString "ch" then some (Value.str ⟨#[x.cps[i]]⟩ tc) else (fun q => if q = Str.ofString "pos" then some (Value.int i ti) else m q) q) (Str.ofString "pos") = some (.int i ti) := by
      show (if _ then _ else (if _ then _ else _)) = _
      rw [if_neg (by decide +kernel), if_pos rfl]
    have hc5 : (fun q => if q = Str.ofString "ch" then some (Value.str ⟨#[x.cps[i]]⟩ tc) else (fun q => if q = Str.ofString "pos" then some (Value.int i ti) else m q) q) (Str.ofString "ch") = some (.str ⟨#[x.cps[i]]⟩ tc) := by
      show (if _ then _ else (if _ then _ else _)) = _
      rw [if_pos rfl]
    generalize (fun q => if q = Str.ofString "ch" then some (Value.str ⟨#[x.cps[i]]⟩ tc) else (fun q => if q = Str.ofString "pos" then some (Value.int i ti) else m q) q) = m5 at hn₅ hv5 hp5 hc5
    have hfp : ∀ q ∈ [Lg, e, it], q = Lg ∨ z ≤ q := fun q hq => by
      rcases List.mem_cons.mp hq with rfl | hq
      · exact .inl rfl
      rcases List.mem_cons.mp hq with rfl | hq
      · exact .inr G.ze
      · rw [List.mem_singleton.mp hq]; exact .inr G.zit
    have hlive : ∀ q ∈ [Lg, e, it], ∃ o, h₅.get? q = some o := fun q hq => by
      rcases List.mem_cons.mp hq with rfl | hq
      · obtain ⟨o, _, _, ho, _⟩ := hn₅; rw [G.hL] at ho; exact ⟨o, ho⟩
      rcases List.mem_cons.mp hq with rfl | hq
      · obtain ⟨⟨_, ho⟩, _⟩ := hen₅; exact ⟨_, ho⟩
      · rw [List.mem_singleton.mp hq]; obtain ⟨_, o, ho, _⟩ := hen₅; exact ⟨o, ho⟩
    -- the state of the generator behind a yield
    have back : ∀ h'', KeepsAt [Lg, e, it] h₀ h₅ h'' → h''.Ns env.locals m5 ∧ ((∃ old, IsEnum h'' e it ((i + 1 : Nat) : Int) old) ∧ h''.IsStrIter it "str_ascii_iterator" x tx (i + 1)) := fun h'' hk' =>
      ⟨hn₅.at' fun o e => hk'.1 _ (by rw [G.hL]; exact .head _) o e, W.frame _ _ _ hen₅ fun b hb o e => hk'.1 _ (.tail _ hb) o e⟩
    refine seg_execs_cons (sg_if (wpAny_isTrue_value (ev_name G.hk G.kesc hn₅ hv5 (by decide +kernel) (wpAny_truthy_bool ?_))))
    cases b with
    | true =>
      rw [if_pos rfl]
      obtain ⟨pre, hsuf⟩ := hsuf
      show Seg _ _ _ _ ((escs false (x.cps.toList.drop (i + 1))).length + 1) _ _ _ _ _
      refine seg_execs_cons (sg_yield (m := m5) (p := i) (tp := ti) (x1 := bsl ++ ⟨#[x.cps[i]]⟩) hfs hfg G (hS₅ _) (by rw [← G.hL]; exact hn₅) ?_ (suf_get hsuf) [Lg, e, it] hfp hlive fun s'' hk' => ?_)
      · refine wpAny_items_cons (ev_name G.hk G.kpos hn₅ hp5 (by decide +kernel) (wpAny_items_cons (wpAny_BinOp (wpAny_Constant_str (ev_name G.hk G.kch hn₅ hc5 (by decide +kernel) ?_))) (by rfl))) (by rfl)
        refine PyProof.Rows.add_str (fun t' tk => wpAny_items_nil ⟨t', tk, rfl, rfl⟩) ?_
        show 1 + 1 ≤ sizeLine
        decide +kernel
      · obtain ⟨hn6, hen6⟩ := back _ hk'
        refine sg_plain (ev_set G.kesc G.hp hn6 (wpAny_Constant_bool ⟨rfl, rfl⟩) (by rfl) fun h7 hn7 hs7 => ⟨rfl, ?_⟩)
        rw [G.hL] at hs7
        refine seg_execs_nil (seg_execs_nil (seg_again rfl (ih (i + 1) false s'' _ (by omega) hlt ⟨⟨_, by rw [← G.hL]; exact hn7, ?_, ⟨i, ti, ?_⟩⟩, ?_⟩ ((GSince.refl z Lg s'').step fun b o h1 h2 e => hs7.extBut b o h2 e) ⟨_, suf_next hsuf⟩)))
        · show (if _ then _ else _) = _
          rw [if_pos rfl]
        · show (if _ then _ else _) = _
          rw [if_neg (by decide +kernel)]; exact hp5
        · exact W.frame _ _ _ hen6 fun b hb o e => hs7.extBut b o (fun h => by subst h; rcases List.mem_cons.mp hb with h | hb; exact hLe h; exact hLi (List.mem_singleton.mp hb)) e
    | false =>
      rw [if_neg Bool.false_ne_true]
      refine seg_execs_cons (sg_if (wpAny_isTrue_Compare1 (ev_name G.hk G.kch hn₅ hc5 (by decide +kernel) (wpAny_Constant_str (PyProof.Rows.eq_str (wpAny_truthy_bool ?_))))))
      obtain ⟨pre, hsuf⟩ := hsuf
      by_cases hb : ((⟨#[x.cps[i]]⟩ : Str) == bsl) = true
      · have e1 : escs false (x.cps[i] :: x.cps.toList.drop (i + 1)) = escs true (x.cps.toList.drop (i + 1)) := by show (if _ then _ else _) = _; rw [if_pos hb]
        rw [e1] at hsuf ⊢
        rw [if_pos hb]
        refine sg_plain (ev_set (s := { s with heap := h₅, toks := _ }) G.kesc G.hp hn₅ (wpAny_Constant_bool ⟨rfl, rfl⟩) (by rfl) fun h7 hn7 hs7 => ⟨rfl, ?_⟩)
        rw [G.hL] at hs7
        refine seg_execs_nil (seg_execs_nil (seg_execs_nil (seg_again rfl (ih (i + 1) true s₀ _ (by omega) hlt ⟨⟨_, by rw [← G.hL]; exact hn7, ?_, ⟨i, ti, ?_⟩⟩, ?_⟩ ((hS₅ _).step fun b o h1 h2 e => hs7.extBut b o h2 e) ⟨pre, hsuf⟩))))
        · show (if _ then _ else _) = _
          rw [if_pos rfl]
        · show (if _ then _ else _) = _
          rw [if_neg (by decide +kernel)]; exact hp5
        · exact W.frame _ _ _ hen₅ fun b hb o e => hs7.extBut b o (fun h => by subst h; rcases List.mem_cons.mp hb with h | hb; exact hLe h; exact hLi (List.mem_singleton.mp hb)) e
      · have e1 : escs false (x.cps[i] :: x.cps.toList.drop (i + 1)) = ⟨#[x.cps[i]]⟩ :: escs false (x.cps.toList.drop (i + 1)) := by show (if _ then _ else _) = _; rw [if_neg hb]
        rw [e1] at hsuf ⊢
        rw [if_neg hb]
        show Seg _ _ _ _ ((escs false (x.cps.toList.drop (i + 1))).length + 1) _ _ _ _ _
        refine seg_execs_cons (sg_yield (m := m5) (p := i) (tp := ti) (x1 := ⟨#[x.cps[i]]⟩) hfs hfg G (hS₅ _) (by rw [← G.hL]; exact hn₅) ?_ (suf_get hsuf) [Lg, e, it] hfp hlive fun s'' hk' => ?_)
        · exact wpAny_items_cons (ev_name G.hk G.kpos hn₅ hp5 (by decide +kernel) (wpAny_items_cons (ev_name G.hk G.kch hn₅ hc5 (by decide +kernel) (wpAny_items_nil ⟨tc, _, rfl, rfl⟩)) (by rfl))) (by rfl)
        · obtain ⟨hn6, hen6⟩ := back _ hk'
          refine seg_execs_nil (seg_execs_nil (seg_execs_nil (seg_again rfl (ih (i + 1) false s'' s'' (by omega) hlt ⟨⟨m5, by rw [← G.hL]; exact hn6, hv5, ⟨i, ti, hp5⟩⟩, hen6⟩ (GSince.refl z Lg s'') ⟨_, suf_next hsuf⟩))))
end
end Mine
end
section
open PySem PySem.W PySem.Spec PySem.Calls PyProof.Rows
open Sem (wp)
set_option Elab.async false
set_option maxRecDepth 100000
namespace Mine
section
variable {prog : Program} {w : World} {A : Around} {env : Env} {h₀ : Heap} {z Lg : Addr} {x : Str} {tx : Tok} {s₀ : Shared} {s : Shared} {m : Str → Option Value} {mg mb : Str → Option Value}
variable (p1 p2 p3 p4 p5 p6 p7 p8 p9 p10 p11 p12 p13 p14 p15 p16 p17 p18 p19 p20 p21 p22 p23 p24 p25 p26 p27 p28 p29 p30 p31 p32 p33 p34 p35 p36 p37 p38 p39 p40 p41 p42 p43 p44 : Pos) (k1 k2 k3 k4 k5 k6 k7 k8 k9 k10 k11 : Nat)
abbrev escAll (p1 p2 p3 p4 p5 p6 p7 p8 p9 p10 p11 p12 p13 p14 p15 p16 p17 p18 p19 p20 p21 p22 p23 p24 p25 p26 p27 p28 p29 p30 p31 p32 p33 p34 p35 p36 p37 p38 p39 p40 p41 p42 p43 p44 : Pos) (k1 k2 k3 k4 k5 k6 k7 k8 k9 k10 k11 : Nat) : List Stmt :=
  [.Assign [.Name (Str.ofString "pos") p28] (.Constant (.int 0) k8 p29) p30, .Assign [.Name (Str.ofString "escape") p31] (.Constant (.bool false) k9 p32) p33,
   .For (escTgt p25 p26 p27 k7) (.Call (.Name (Str.ofString "enumerate") p34) [.Name (Str.ofString "addr") p35] [] p36) (escBody p1 p2 p3 p4 p5 p6 p7 p8 p9 p10 p11 p12 p13 p14 p15 p16 p17 p18 p19 p20 p21 p22 p23 p24 k1 k2 k3 k4 k5 k6) [] p37,
   .If (.Name (Str.ofString "escape") p38) [.Expr (.Yield (some (.Tuple [.Name (Str.ofString "pos") p39, .Constant (.str bsl) k10 p40] k11 p41)) p42) p43] [] p44]
theorem sg_start (hh : ∀ c fs, splitAtGen fs = none → fs.any Frame.guarded = false → fs.length ≤ 1 → (∀ f ∈ fs, ∃ k c p, f = Frame.ret k none false [] c p []) → (A.over c fs).handled = none)
    (G : ∀ e it, z ≤ e → z ≤ it → e ≠ it → GEnv env z Lg e it) (kaddr : env.kindOf (Str.ofString "addr") = some .local) (ken : env.kindOf (Str.ofString "enumerate") = some .globalImplicit)
    (hg : s.heap.Ns env.globals mg) (hmiss : mg (Str.ofString "enumerate") = none) (hb : s.heap.Ns env.builtins mb) (hv : mb (Str.ofString "enumerate") = some (.type "enumerate"))
    (hng : env.globals ≠ Lg) (hnb : env.builtins ≠ Lg)
    (hasc : x.cps.all (· < 128) = true) (hn : s.heap.Ns Lg m) (ha : m (Str.ofString "addr") = some (.str x tx)) (hz : z ≤ s.heap.objs.size) (hS : GSince z Lg s₀ s) :
    Seg (model prog w) A (gEnd z Lg) (gProto h₀ z Lg (escs false x.cps.toList)) (escs false x.cps.toList).length s₀
      (.func (escAll p1 p2 p3 p4 p5 p6 p7 p8 p9 p10 p11 p12 p13 p14 p15 p16 p17 p18 p19 p20 p21 p22 p23 p24 p25 p26 p27 p28 p29 p30 p31 p32 p33 p34 p35 p36 p37 p38 p39 p40 p41 p42 p43 p44 k1 k2 k3 k4 k5 k6 k7 k8 k9 k10 k11) env)
      ((model prog w).den (.func (escAll p1 p2 p3 p4 p5 p6 p7 p8 p9 p10 p11 p12 p13 p14 p15 p16 p17 p18 p19 p20 p21 p22 p23 p24 p25 p26 p27 p28 p29 p30 p31 p32 p33 p34 p35 p36 p37 p38 p39 p40 p41 p42 p43 p44 k1 k2 k3 k4 k5 k6 k7 k8 k9 k10 k11) env)) [] s := by
  have G0 := G z (z + 1) (Nat.le_refl _) (Nat.le_succ _) (Nat.ne_of_lt (Nat.lt_succ_self _))
  have hL := G0.hL
  refine seg_func ?_
  -- pos = 0
  refine sg_plain (wpAny_Assign_Name (wpAny_Constant_int (wpAny_storeName_local G0.kpos (by rw [hL]; exact hn) (fun h1 hn1 hs1 => ⟨rfl, ?_⟩) G0.hp)) (by rfl))
  replace hs1 : Heap.SameBut env.locals s.heap h1 := hs1
  refine sg_plain (ev_set (s := { s with heap := h1, toks := _ }) G0.kesc G0.hp hn1 (wpAny_Constant_bool ⟨rfl, rfl⟩) (by rfl) fun h2 hn2 hs2 => ⟨rfl, ?_⟩)
  replace hs2 : Heap.SameBut env.locals h1 h2 := hs2
  have keep2 : ∀ b o, b ≠ Lg → s.heap.get? b = some o → h2.get? b = some o := fun b o h e => hs2.extBut b o (by rw [hL]; exact h) (hs1.extBut b o (by rw [hL]; exact h) e)
  have hsz2 : h2.objs.size = s.heap.objs.size := hs2.1.trans hs1.1
  have ha2 : (fun q => if q = Str.ofString "escape" then some (Value.bool false) else (fun q => if q = Str.ofString "pos" then some (Value.int 0 s.toks) else m q) q) (Str.ofString "addr") = some (.str x tx) := by
    show (if _ then _ else (if _ then _ else _)) = _
    rw [if_neg (by decide +kernel), if_neg (by decide +kernel)]; exact ha
  have he2 : (fun q => if q = Str.ofString "escape" then some (Value.bool false) else (fun q => if q = Str.ofString "pos" then some (Value.int 0 s.toks) else m q) q) (Str.ofString "escape") = some (.bool false) := by
    show (if _ then _ else (if _ then _ else _)) = _
    rw [if_pos rfl]
  have hp2 : (fun q => if q = Str.ofString "escape" then some (Value.bool false) else (fun q => if q = Str.ofString "pos" then some (Value.int 0 s.toks) else m q) q) (Str.ofString "pos") = some (.int 0 s.toks) := by
    show (if _ then _ else (if _ then _ else _)) = _
    rw [if_neg (by decide +kernel), if_pos rfl]
  generalize (fun q => if q = Str.ofString "escape" then some (Value.bool false) else (fun q => if q = Str.ofString "pos" then some (Value.int 0 s.toks) else m q) q) = m2 at hn2 ha2 he2 hp2
  refine seg_execs_cons (sg_for (by intro _; rfl) (wpAny_Call_NameR (Calls.Name_function_global G0.hk ken (Calls.loadGlobal_builtin (hg.at' fun o e => keep2 _ o hng e) hmiss (hb.at' fun o e => keep2 _ o hnb e) hv (callWith_type1 (wpAny_items_cons (ev_name G0.hk kaddr hn2 ha2 (by decide +kernel) (wpAny_items_nil ?_)) (by rfl)))))))
  refine call_enumerate_str fun h3 he3 hit3 hsz3 hk3 => ?_
  replace hk3 : ∀ b o, h2.get? b = some o → h3.get? b = some o := hk3
  have ht : strIterType x = "str_ascii_iterator" := by unfold strIterType; rw [if_pos hasc]
  rw [ht] at hit3
  have hze : z ≤ h2.objs.size + 1 := by rw [hsz2]; exact Nat.le_succ_of_le hz
  have hzi : z ≤ h2.objs.size := by rw [hsz2]; exact hz
  have G1 := G (h2.objs.size + 1) h2.objs.size hze hzi (Nat.succ_ne_self _)
  refine wpAny_pyIter_enum he3 fun k p hk => ?_
  have hn3 : h3.Ns env.locals m2 := hn2.at' fun o e => hk3 _ o e
  have hS3 : ∀ tk, GSince z Lg s₀ { s with heap := h3, toks := tk } := fun tk => hS.step fun b o h1 h2' e => hk3 b o (keep2 b o h2' e)
  have e0 : escs false x.cps.toList = escs false (x.cps.toList.drop 0) := by rw [List.drop_zero]
  rw [e0]
  refine sg_loop p1 p2 p3 p4 p5 p6 p7 p8 p9 p10 p11 p12 p13 p14 p15 p16 p17 p18 p19 p20 p21 p22 p23 p24 p25 p26 p27 k1 k2 k3 k4 k5 k6 k7 (by rfl) (by rfl) (fun c => hh c _ (by rfl) (by rfl) (by exact Nat.le_refl _) (fun f hf => by rw [List.mem_singleton.mp hf]; exact ⟨_, _, _, rfl⟩)) G1 ?_ x.cps.size 0 false s₀ _ (Nat.sub_zero _) (Nat.zero_le _) ⟨⟨m2, by rw [← hL]; exact hn3, he2, _, _, hp2⟩, ⟨⟨_, he3⟩, hit3⟩⟩ (hS3 _) ⟨[], by simp⟩
  intro b t₀ t hns hT hsuf
  obtain ⟨m4, hn4, he4, pp, tpp, hp4⟩ := hns
  rw [← hL] at hn4
  refine seg_leaf (.ok .next) ?_
  rw [hk]
  refine seg_execs_cons (sg_if (wpAny_isTrue_value (ev_name G1.hk G1.kesc hn4 he4 (by decide +kernel) (wpAny_truthy_bool ?_))))
  cases b with
  | true =>
    rw [if_pos rfl]
    obtain ⟨pre, hsuf⟩ := hsuf
    have hfp : ∀ q ∈ [Lg], q = Lg ∨ z ≤ q := fun q hq => .inl (List.mem_singleton.mp hq)
    have hlive : ∀ q ∈ [Lg], ∃ o, t.heap.get? q = some o := fun q hq => by
      rw [List.mem_singleton.mp hq]
      obtain ⟨o, _, _, ho, _⟩ := hn4; rw [hL] at ho; exact ⟨o, ho⟩
    refine seg_execs_cons (sg_yield (n := 0) (m := m4) (p := pp) (tp := tpp) (x1 := bsl) (by rfl) (by rfl) G1 hT (by rw [← hL]; exact hn4) ?_ (suf_get (r := []) hsuf) [Lg] hfp hlive fun s'' hk' => ?_)
    · exact wpAny_items_cons (ev_name G1.hk G1.kpos hn4 hp4 (by decide +kernel) (wpAny_items_cons (wpAny_Constant_str (wpAny_items_nil ⟨_, _, rfl, rfl⟩)) (by rfl))) (by rfl)
    · refine seg_execs_nil (seg_execs_nil ?_)
      exact seg_end (.ok (.ret .none)) ⟨rfl, rfl, GSince.refl z Lg s''⟩
  | false =>
    rw [if_neg Bool.false_ne_true]
    refine seg_execs_nil (seg_execs_nil ?_)
    exact seg_end (.ok (.ret .none)) ⟨rfl, rfl, hT⟩
end
end Mine
end
section
open PySem PySem.W PySem.Spec PySem.Calls PyProof.Rows
open Sem (wp)
set_option Elab.async false
set_option maxRecDepth 100000
namespace Mine
section
variable {prog : Program} {w : World} {A : Around} {E : Value → Shared → Prop} {s : Shared}
/-- a generator function's next: the state behind a yield is bare -/
theorem next_ret {a : Addr} {g n : Nat} {gs : GenState} {P : Nat → Shared → Shared → Prop} {Y : Protocol} {Q : Option Value → Shared → Prop} (hh : A.handled = none) (hl : s.heap.NoLimit) (hroom : A.depth < recursionLimit)
    (hg : s.heap.IsGen a g) (hgs : s.gens[g]? = some gs) (hgo : gs.Goes (model prog w) A.in1 (fun n s₀ r s₁ => r = .ok (.ret .none) ∧ P n s₀ s₁) Y n (.send .none) (s.setGen g .running))
    (hY : ∀ v s₁ gs', gs'.bare = true → Y (n - 1) (s.setGen g .running) v s₁ (fun r' s'' => match n with | 0 => False | m + 1 => gs'.Goes (model prog w) A.in1 (fun n s₀ r s₁ => r = .ok (.ret .none) ∧ P n s₀ s₁) Y m r' s'') → Q (some v) (s₁.setGen g gs'))
    (hP : ∀ s₁, P n (s.setGen g .running) s₁ → ∀ h', (∀ b o, s₁.heap.get? b = some o → h'.get? b = some o) → Q none { s₁.setGen g .finished with heap := h' }) :
    wpAny (model prog w) A (pyNext (.ref a)) Q E s := by
  have stop : ∀ s₁, P n (s.setGen g .running) s₁ → ∀ (jp : PUnit → Sem Fin), wpAny (model prog w) A.in1 (newExc (.type "StopIteration") [] >>= fun x => raiseNew x >>= jp) (fun _ _ => False)
      (fun x s' => wpAny (model prog w) A (do if (← isInstance x (.type "StopIteration")) then pure none else throw x) Q E s') (s₁.setGen g .finished) := by
    intro s₁ hp jp
    refine wpAny_bind ?_
    simp only [newExc, newTuple]
    refine wpAny_bind (wpAny_newObj_type ?_ (by size_fits))
    refine wpAny_bind (m := firstArgMember _ _) (wpAny_of_eq (a := Value.none) (by first | rfl | (simp only [firstArgMember]; rfl)) ?_)
    refine wpAny_newObj_type ?_ (by size_fits)
    simp only [raiseNew]
    refine wpAny_bind (wpAny_bind (wpAny_handled ?_))
    first | rw [show A.in1.handled = none from hh] | rw [hh]
    first
      | refine wpAny_throw ?_
      | refine wpAny_bind (wpAny_pure (wpAny_throw ?_))
    refine wpAny_bind (wpAny_isInstance (T := "StopIteration") (b := true) ⟨_, Heap.get?_push_size _ rfl, rfl⟩ isSubtype_stop ?_)
    exact wpAny_pure (hP s₁ hp _ fun b o hb => Heap.get?_push_of_some _ (Heap.get?_push_of_some _ hb))
  unfold pyNext
  refine wpAny_bind (wpAny_attempt (wpAny_callSpecial?_slot (name := Str.ofString "__next__") hg.typeIs slot_gen_next (wpAny_call_entry slot_gen_next hg.typeIs entry_gen_next ?_ (args_gen_next _))))
  show wpAny _ A.in1 (Builtin.Generator.genWake (.ref a) (.send .none)) _ _ s
  unfold Builtin.Generator.genWake
  refine wpAny_bind (wpAny_holding (wpAny_genNumber hg (wpAny_bind (wpAny_genState hgs ?_))))
  cases gs with
  | running => exact hgo.elim
  | finished => exact hgo.elim
  | _ =>
    refine wpAny_bind (wpAny_roomToWake hl hroom ?_)
    show wpAny _ A.in1 (.resume g (.send .none) [] _) _ _ s
    refine wpAny_resumeQ hgs hgo (fun x s₁ hx => ?_) (fun v s₁ gs' hb hv => wpAny_pure ⟨v, rfl, wpAny_pure (hY v s₁ gs' hb hv)⟩)
    obtain ⟨rfl, hp⟩ := hx
    show wpAny _ A.in1 (newExc (.type "StopIteration") [] >>= _) _ _ _
    exact wpAny_mono (stop s₁ hp _) (fun _ _ h => h.elim) fun _ _ h => h
end
end Mine
end
section
open PySem PySem.W PySem.Spec PySem.Calls PyProof.Rows
open Sem (wp)
set_option Elab.async false
set_option maxRecDepth 100000
namespace Mine
theorem led_of {h : Heap} : ∀ {fp : List Addr}, (∀ b ∈ fp, ∃ o, h.get? b = some o) → ∃ led : List (Addr × Obj), led.map (·.1) = fp ∧ ∀ q ∈ led, h.get? q.1 = some q.2
  | [], _ => ⟨[], rfl, fun _ h => nomatch h⟩
  | b :: r, hb => by
    obtain ⟨o, ho⟩ := hb b (.head _)
    obtain ⟨led, h1, h2⟩ := led_of (fp := r) fun b' hb' => hb b' (.tail _ hb')
    exact ⟨(b, o) :: led, by rw [List.map_cons, h1], fun q hq => by
      rcases List.mem_cons.mp hq with rfl | hq
      · exact ho
      · exact h2 q hq⟩
def GAt (prog : Program) (w : World) (A : Around) (a : Addr) (g : Nat) (Lg : Addr) (h₀ : Heap) (outs : List Str) (j : Nat) (led : List (Addr × Obj)) (gens : Array GenState) : Prop :=
  (∃ o nm qn, (a, o) ∈ led ∧ o.cls = .type "generator" ∧ o.data = .fields #[.int g 0, nm, qn] ∧ o.slots = #[]) ∧ (∀ q ∈ led, q.1 = Lg ∨ a ≤ q.1) ∧
  ∃ gs, gens[g]? = some gs ∧ ∀ s'' : Shared, (∀ q ∈ led, s''.heap.get? q.1 = some q.2) → (∀ b o, h₀.get? b = some o → s''.heap.get? b = some o) →
    gs.Goes (model prog w) A.in1 (gEnd (a + 1) Lg) (gProto h₀ (a + 1) Lg outs) (outs.length - j) (.send .none) s''
section
variable {prog : Program} {w : World} {A : Around} {E : Value → Shared → Prop} {s : Shared} {a Lg : Addr} {g : Nat} {h₀ : Heap} {outs : List Str} {j : Nat} {led : List (Addr × Obj)} {Q : Option Value → Shared → Prop}
theorem gat_next {c : Str} (hh : A.handled = none) (hl : h₀.NoLimit) (hroom : A.depth < recursionLimit) (hLa : Lg < a) (st : GAt prog w A a g Lg h₀ outs j led s.gens) (hled : ∀ q ∈ led, s.heap.get? q.1 = some q.2)
    (hk : ∀ b o, h₀.get? b = some o → s.heap.get? b = some o) (hj : outs[j]? = some c)
    (hQ : ∀ T p tp tc h' tk gens' led', h'.IsTuple T #[.int p tp, .str c tc] → GAt prog w A a g Lg h₀ outs (j + 1) led' gens' → (∀ q ∈ led', h'.get? q.1 = some q.2) → GenOnlyQ g s.gens gens' →
      (∀ b o, b ≤ a → b ≠ Lg → s.heap.get? b = some o → h'.get? b = some o) → Q (some (.ref T)) { s with heap := h', toks := tk, gens := gens' }) :
    wpAny (model prog w) A (pyNext (.ref a)) Q E s := by
  obtain ⟨⟨oa, nm, qn, hoa, hoc, hod, hos⟩, hwh, gs, hgs, hgo⟩ := st
  have hjl : j < outs.length := by
    rcases Nat.lt_or_ge j outs.length with h | h
    · exact h
    · rw [List.getElem?_eq_none h] at hj; cases hj
  obtain ⟨m, hm⟩ : ∃ m, outs.length - j = m + 1 := ⟨outs.length - j - 1, by omega⟩
  rw [hm] at hgo
  refine next_ret (P := fun n s₀ s₁ => n = 0 ∧ GSince (a + 1) Lg s₀ s₁) hh (hl.keeps hk) hroom ⟨oa, nm, qn, hled _ hoa, hoc, hod, hos⟩ hgs (hgo _ hled hk) (fun v s₁ gs' hb hv => ?_) (fun s₁ hp => absurd hp.1 (Nat.succ_ne_zero m))
  obtain ⟨⟨T, p, tp, c', tc, rfl, hT, hc'⟩, ⟨h₁, tk₁, rfl, hk₁⟩, fp, hfp, hlive, hkap⟩ := hv
  have hidx : outs.length - 1 - (m + 1 - 1) = j := by omega
  rw [hidx, hj] at hc'
  obtain rfl : c = c' := Option.some.inj hc'
  obtain ⟨led', hl1, hl2⟩ := led_of hlive
  have hga : h₁.get? a = some oa := hk₁ _ _ (Nat.lt_succ_self a) (Nat.ne_of_gt hLa) (hled _ hoa)
  refine hQ T p tp tc h₁ tk₁ _ ((a, oa) :: led') hT ⟨⟨oa, nm, qn, .head _, hoc, hod, hos⟩, fun q hq => ?_, gs', setGen_self (gs := .running) (setGen_self hgs), fun s'' h1 h2 => ?_⟩ (fun q hq => ?_) (GenOnlyQ.of ((GenOnly.setGen s g .running).trans (GenOnly.setGen _ g gs')) (setGen_self (gs := .running) (setGen_self hgs)) hb) fun b o h1 h2 e => hk₁ b o (Nat.lt_succ_of_le h1) h2 e
  · rcases List.mem_cons.mp hq with rfl | hq
    · exact .inr (Nat.le_refl _)
    · rcases hfp q.1 (by rw [← hl1]; exact List.mem_map_of_mem hq) with h | h
      · exact .inl h
      · exact .inr (Nat.le_of_succ_le h)
  · have e : outs.length - (j + 1) = m := by omega
    rw [e]
    refine hkap s'' ⟨fun b hb o ho => ?_, h2⟩
    rw [← hl1] at hb
    obtain ⟨q, hq, rfl⟩ := List.mem_map.mp hb
    have h3 := hl2 q hq
    rw [show h₁.get? q.1 = some o from ho] at h3
    rw [h1 q (.tail _ hq), h3]
  · rcases List.mem_cons.mp hq with rfl | hq
    · exact hga
    · exact hl2 q hq
theorem gat_done (hh : A.handled = none) (hl : h₀.NoLimit) (hroom : A.depth < recursionLimit) (hLa : Lg < a) (hbase : h₀.objs.size ≤ Lg) (st : GAt prog w A a g Lg h₀ outs outs.length led s.gens) (hled : ∀ q ∈ led, s.heap.get? q.1 = some q.2)
    (hk : ∀ b o, h₀.get? b = some o → s.heap.get? b = some o)
    (hQ : ∀ h' tk gens', GenOnlyQ g s.gens gens' → (∀ b o, b ≤ a → b ≠ Lg → s.heap.get? b = some o → h'.get? b = some o) → Q none { s with heap := h', toks := tk, gens := gens' }) :
    wpAny (model prog w) A (pyNext (.ref a)) Q E s := by
  obtain ⟨⟨oa, nm, qn, hoa, hoc, hod, hos⟩, hwh, gs, hgs, hgo⟩ := st
  rw [Nat.sub_self] at hgo
  refine next_ret (P := fun n s₀ s₁ => n = 0 ∧ GSince (a + 1) Lg s₀ s₁) hh (hl.keeps hk) hroom ⟨oa, nm, qn, hled _ hoa, hoc, hod, hos⟩ hgs (hgo _ hled hk) (fun v s₁ gs' hb hv => ?_) (fun s₁ hp h' hk' => ?_)
  · obtain ⟨_, ⟨h₁, tk₁, rfl, hk₁⟩, fp, hfp, hlive, hkap⟩ := hv
    refine False.elim (hkap _ ⟨fun _ _ _ e => e, fun b o e => hk₁ b o ?_ ?_ (hk b o e)⟩)
    · exact Nat.lt_succ_of_lt (Nat.lt_trans (Nat.lt_of_lt_of_le (Heap.lt_size e) hbase) hLa)
    · exact Nat.ne_of_lt (Nat.lt_of_lt_of_le (Heap.lt_size e) hbase)
  · obtain ⟨_, h₁, tk₁, rfl, hk₁⟩ := hp
    exact hQ h' tk₁ _ (GenOnlyQ.of ((GenOnly.setGen s g .running).trans (GenOnly.setGen _ g .finished)) (setGen_self (gs := .running) (setGen_self hgs)) rfl) fun b o h1 h2 e => hk' b o (hk₁ b o (Nat.lt_succ_of_le h1) h2 e)
end
end Mine
end
section
open PySem PySem.W PySem.Spec PySem.Calls PyProof.Rows
open Sem (wp)
set_option Elab.async false
set_option maxRecDepth 100000
namespace Mine
section
variable {prog : Program} {w : World} {A : Around} {s : Shared}
theorem over_none (A : Around) (hA : A.handled = none) (c : Code) : ∀ fs : List Frame, fs.length ≤ 1 → (∀ f ∈ fs, ∃ k c p, f = Frame.ret k none false [] c p []) → (A.over c fs).handled = none
  | [], _, _ => by show (marksOver [] (A.handled, A.handled)).1 = none; rw [hA]; rfl
  | [f], _, h => by
    obtain ⟨k, c, p, rfl⟩ := h f (.head _)
    show (marksOver [Frame.ret k none false [] c p []] (A.handled, A.handled)).1 = none
    rw [hA]; rfl
  | f :: f' :: r, hl, _ => absurd hl (by simp only [List.length_cons]; omega)
/-- the call that makes the generator -/
theorem gen_make {h₀ : Heap} {L : Addr} {m mg mb : Str → Option Value} {news : List (Addr × Obj)} {KK : Frag} {p : Program} {loose : List Str} {mean : ExcName → Option Value}
    {R : Result → Shared → Prop} {name qual : Str} {params : Arguments} {scope : Scope} {dV kV doc pm cdv ct oc : Value} {an od : Option Addr} {osl : Array (Option Value)} {f : Addr} {args : Args} {x : Str} {tx : Tok}
    {p1 p2 p3 p4 p5 p6 p7 p8 p9 p10 p11 p12 p13 p14 p15 p16 p17 p18 p19 p20 p21 p22 p23 p24 p25 p26 p27 p28 p29 p30 p31 p32 p33 p34 p35 p36 p37 p38 p39 p40 p41 p42 p43 p44 : Pos} {k1 k2 k3 k4 k5 k6 k7 k8 k9 k10 k11 : Nat}
    (F : Fr h₀ L s.heap m) (X₀ : KK.In h₀) (N : News h₀ L s.heap news) (T : Top p loose mean mg mb h₀) (hroom : A.depth < recursionLimit)
    (ho : KK.lookup f = some ⟨oc, od, .func (fnOf name qual params (escAll p1 p2 p3 p4 p5 p6 p7 p8 p9 p10 p11 p12 p13 p14 p15 p16 p17 p18 p19 p20 p21 p22 p23 p24 p25 p26 p27 p28 p29 p30 p31 p32 p33 p34 p35 p36 p37 p38 p39 p40 p41 p42 p43 p44 k1 k2 k3 k4 k5 k6 k7 k8 k9 k10 k11) scope dV kV doc pm an cdv ct), osl⟩) (hcd : codeIn KK cdv qual = true)
    (hbind : BindsTo s (fnOf name qual params (escAll p1 p2 p3 p4 p5 p6 p7 p8 p9 p10 p11 p12 p13 p14 p15 p16 p17 p18 p19 p20 p21 p22 p23 p24 p25 p26 p27 p28 p29 p30 p31 p32 p33 p34 p35 p36 p37 p38 p39 p40 p41 p42 p43 p44 k1 k2 k3 k4 k5 k6 k7 k8 k9 k10 k11) scope dV kV doc pm an cdv ct) args [(Str.ofString "addr", .str x tx)])
    (hkinds : scope.names = [(Str.ofString "addr", .local), (Str.ofString "pos", .local), (Str.ofString "escape", .local), (Str.ofString "ch", .local), (Str.ofString "enumerate", .globalImplicit)])
    (hmiss : mg (Str.ofString "enumerate") = none) (hv : mb (Str.ofString "enumerate") = some (.type "enumerate")) (hasc : x.cps.all (· < 128) = true)
    (hco : scope.isCoroutine = false) (hgen : scope.isGenerator = true) (hk : scope.kind = .function)
    (hR : ∀ a Lg h' tk gs led, Fr h₀ L h' m → News h₀ L h' (led ++ news) → (∀ q' ∈ news, @LT.lt Nat _ q'.1 Lg) → L < Lg → Lg < a → h₀.objs.size ≤ Lg → (∀ A' : Around, A'.handled = none → GAt prog w A' a s.gens.size Lg h₀ (escs false x.cps.toList) 0 led (s.gens.push gs)) → gs.bare = true →
      R (.ok (.ret (.ref a))) { s with heap := h', toks := tk, gens := s.gens.push gs }) :
    codeAny (model prog w) A (.call (.ref f) args) R s := by
  have XS := X₀.keeps F.keep
  refine codeAny_call_generator (fd := fnOf name qual params (escAll p1 p2 p3 p4 p5 p6 p7 p8 p9 p10 p11 p12 p13 p14 p15 p16 p17 p18 p19 p20 p21 p22 p23 p24 p25 p26 p27 p28 p29 p30 p31 p32 p33 p34 p35 p36 p37 p38 p39 p40 p41 p42 p43 p44 k1 k2 k3 k4 k5 k6 k7 k8 k9 k10 k11) scope dV kV doc pm an cdv ct) hroom (XS _ _ ho) rfl hco hgen rfl (codeRec_of XS hcd) (hbind _ _ _ _ ?_)
  refine wpAny_newFunctionEnv (by rw [show (fnOf name qual params (escAll p1 p2 p3 p4 p5 p6 p7 p8 p9 p10 p11 p12 p13 p14 p15 p16 p17 p18 p19 p20 p21 p22 p23 p24 p25 p26 p27 p28 p29 p30 p31 p32 p33 p34 p35 p36 p37 p38 p39 p40 p41 p42 p43 p44 k1 k2 k3 k4 k5 k6 k7 k8 k9 k10 k11) scope dV kV doc pm an cdv ct).scope.names = _ from hkinds]; intro y hy; simp only [List.mem_cons, List.not_mem_nil, or_false] at hy; rcases hy with rfl | rfl | rfl | rfl | rfl <;> (intro h; cases h)) (by
    intro y hy
    rw [List.mem_singleton.mp hy]; show List.lookup (Str.ofString "addr") _ = _
    rw [show (fnOf name qual params (escAll p1 p2 p3 p4 p5 p6 p7 p8 p9 p10 p11 p12 p13 p14 p15 p16 p17 p18 p19 p20 p21 p22 p23 p24 p25 p26 p27 p28 p29 p30 p31 p32 p33 p34 p35 p36 p37 p38 p39 p40 p41 p42 p43 p44 k1 k2 k3 k4 k5 k6 k7 k8 k9 k10 k11) scope dV kV doc pm an cdv ct).scope.names = _ from hkinds]
    rfl) (fun h1 hn1 hs1 => ?_) hk
  have hs1' : Heap.SameBut s.heap.objs.size (s.heap.push { cls := .type "frame", data := .dict #[] }) h1 := hs1
  have keep1 : ∀ b o, s.heap.get? b = some o → h1.get? b = some o := fun b o e => hs1'.extBut b o (Nat.ne_of_lt (Heap.lt_size e)) (Heap.get?_push_of_some _ e)
  have hsz1 : h1.objs.size = s.heap.objs.size + 1 := by rw [hs1'.1, Heap.size_push]
  refine ⟨T.nolimit.keeps fun b o e => keep1 b o (F.keep b o e), ?_⟩
  obtain ⟨oL, esL, epL, hoL, hoLr⟩ := id hn1
  have hab : h₀.objs.size ≤ L := F.above
  have hLs : L < s.heap.objs.size := F.ns.lt
  have n0 : ∀ b : Addr, s.heap.objs.size ≤ b → h₀.get? b = none ∧ b ≠ L := fun b hb => ⟨Heap.get?_none_of_le (Nat.le_trans hab (Nat.le_trans (Nat.le_of_lt hLs) hb)), Nat.ne_of_gt (Nat.lt_of_lt_of_le hLs hb)⟩
  have hpa : (h1.push { cls := .type "generator", data := .fields #[.int s.gens.size 0, .str name (s.toks + 1), .str qual (s.toks + 1 + 1)] }).get? h1.objs.size = some { cls := .type "generator", data := .fields #[.int s.gens.size 0, .str name (s.toks + 1), .str qual (s.toks + 1 + 1)] } := Heap.get?_push_size _ rfl
  have keep2 : ∀ b o, s.heap.get? b = some o → (h1.push { cls := .type "generator", data := .fields #[.int s.gens.size 0, .str name (s.toks + 1), .str qual (s.toks + 1 + 1)] }).get? b = some o := fun b o e => Heap.get?_push_of_some _ (keep1 b o e)
  refine hR h1.objs.size s.heap.objs.size _ _ _ [(h1.objs.size, { cls := .type "generator", data := .fields #[.int s.gens.size 0, .str name (s.toks + 1), .str qual (s.toks + 1 + 1)] }), (s.heap.objs.size, oL)]
    (F.keeps keep2) ?_ ?_ hLs (by rw [hsz1]; exact Nat.lt_succ_self _) (Nat.le_trans hab (Nat.le_of_lt hLs)) (fun A' hA' => ⟨⟨_, _, _, .head _, rfl, rfl, rfl⟩, ?_, _, Array.getElem?_push_size .., fun s'' hl hk'' => ⟨rfl, ?_⟩⟩) rfl
  · intro q hq
    rcases List.mem_cons.mp hq with rfl | hq
    · exact ⟨hpa, (n0 _ (by rw [hsz1]; exact Nat.le_succ _)).2, (n0 _ (by rw [hsz1]; exact Nat.le_succ _)).1⟩
    rcases List.mem_cons.mp hq with rfl | hq
    · exact ⟨Heap.get?_push_of_some _ hoL, (n0 _ (Nat.le_refl _)).2, (n0 _ (Nat.le_refl _)).1⟩
    · exact ⟨keep2 _ _ (N q hq).1, (N q hq).2⟩
  · exact fun q' hq' => Heap.lt_size (N q' hq').1
  · intro q hq
    rcases List.mem_cons.mp hq with rfl | hq
    · exact .inr (Nat.le_refl _)
    · rw [List.mem_singleton.mp hq]; exact .inl rfl
  · have ea := hl _ (.head _)
    have eL := hl _ (.tail _ (.head _))
    have hne : ∀ b : Addr, b < h₀.objs.size → b ≠ s.heap.objs.size := fun b hb => Nat.ne_of_lt (Nat.lt_of_lt_of_le hb (Nat.le_trans hab (Nat.le_of_lt hLs)))
    have hkd : ∀ y k, List.lookup y [(Str.ofString "addr", NameKind.local), (Str.ofString "pos", .local), (Str.ofString "escape", .local), (Str.ofString "ch", .local), (Str.ofString "enumerate", .globalImplicit)] = some k →
        (newEnv scope s.heap.objs.size mainGlobals [] (qual ++ ".<locals>.") (some f) cdv none builtinsNs).kindOf y = some k := fun y k e => by
      show scope.names.lookup y = some k
      rw [hkinds]; exact e
    have hkm : (scope.kind == ScopeKind.module) = false := by rw [hk]; rfl
    refine sg_start _ _ _ _ _ _ _ _ _ _ _ _ _ _ _ _ _ _ _ _ _ _ _ _ _ _ _ _ _ _ _ _ _ _ _ _ _ _ _ _ _ _ _ _ _ _ _ _ _ _ _ _ _ _ _ (fun c fs _ _ h1 h2 => over_none A'.in1 hA' c fs h1 h2)
      (fun e it he hi hne' => ⟨hk, rfl, ?_, ?_, hco, hkd _ _ (by rfl), hkd _ _ (by rfl), hkd _ _ (by rfl), ?_, he, hi, hne'⟩) (hkd _ _ (by rfl)) (hkd _ _ (by rfl)) (T.g.keeps hk'') hmiss (T.b.keeps hk'') hv (hne _ T.g.lt) (hne _ T.b.lt) hasc (hn1.at' fun o e => ?_) (by rfl) ?_ (GSince.refl _ _ _)
    · show (scope.kind == .class || (scope.kind == .module && _)) = false
      rw [hk]; rfl
    · show (scope.kind == .module && _) = false
      rw [hk]; rfl
    · rw [hsz1]; exact Nat.lt_succ_of_lt (Nat.lt_succ_self _)
    · rw [show o = oL from Option.some.inj (e.symm.trans hoL)]; exact eL
    · exact Nat.succ_le_of_lt (Heap.lt_size ea)
end
end Mine
end
section
open PySem PySem.W PySem.Spec PySem.Calls PyProof.Rows
open Sem (wp)
set_option Elab.async false
set_option maxRecDepth 100000
namespace Mine
/-- what _check_parenthesis makes of the handed-out signs -/
def chkGo : Int → List Str → Bool
  | n, [] => n == 0
  | n, c :: r => if (c == Str.ofString "(") = true then chkGo (n + 1) r else if (c == Str.ofString ")") = true then (if n - 1 < 0 then false else chkGo (n - 1) r) else chkGo n r
def chk (x : Str) : Bool := chkGo 0 (escs false x.cps.toList)
def mOp (o : Int) (t : Tok) (mm : Str → Option Value) : Str → Option Value := fun y => if y = Str.ofString "opens" then some (.int o t) else mm y
section
variable {prog : Program} {w : World} {A : Around} {E : Value → Shared → Prop} {s : Shared} {env : Env}
theorem letGo_gen {elts : List PySem.Expr} {k : Nat} {pos : Pos} {a T : Addr} {o : Obj} {vs : Array Value} {Q : Unit → Shared → Prop} (ho : s.heap.get? a = some o) (hc : o.cls = .type "generator") (hd : o.data = .fields vs) (h : Q () s) :
    wpAny (model prog w) A (letOwnedTupleGo (.Tuple elts k pos) (.ref a) (.ref T)) Q E s := by
  unfold letOwnedTupleGo
  refine wpAny_bind (wpAny_load ho ?_)
  rw [hc, hd]
  show wpAny _ A (if (["enumerate", "zip", "dict_itemiterator", "dict_reverseitemiterator", "odict_iterator", "itertools.zip_longest", "itertools.pairwise"].contains "generator" && vs[0]? == some (rawInt T)) = true then _ else _) Q E s
  rw [if_neg (by simp)]
  exact wpAny_pure h
/-- the two names of the loop's target are stored -/
theorem assign_two {h₀ : Heap} {T : Addr} {m : Str → Option Value} {news : List (Addr × Obj)} {n1 n2 : Str} {q1 q2 qt : Pos} {k : Nat} {v1 v2 : Value} {Q : Unit → Shared → Prop} (hh : A.handled = none) (F : Fr h₀ env.locals s.heap m) (N : News h₀ env.locals s.heap news) (hT : s.heap.IsTuple T #[v1, v2])
    (k1 : env.kindOf n1 = some .local) (k2 : env.kindOf n2 = some .local) (hp : (env.scope.kind == .class || (env.scope.kind == .module && env.locals != env.globals)) = false)
    (h : ∀ h' tk, Fr h₀ env.locals h' (fun y => if y = n2 then some v2 else if y = n1 then some v1 else m y) → News h₀ env.locals h' news → Q () { s with heap := h', toks := tk }) :
    wpAny (model prog w) A (assign (.Tuple [.Name n1 q1, .Name n2 q2] k qt) env (.ref T)) Q E s := by
  refine wpAny_assign_Tuple hh hT rfl rfl fun h3 hx3 => ?_
  replace hx3 : Heap.ExtBut s.heap.objs.size s.heap h3 := hx3
  have keep3 : ∀ b o, s.heap.get? b = some o → h3.get? b = some o := fun b o e => hx3 b o (Nat.ne_of_lt (Heap.lt_size e)) e
  have F3 : Fr h₀ env.locals h3 m := F.keeps keep3
  have N3 : News h₀ env.locals h3 news := fun q hq => ⟨keep3 _ _ (N q hq).1, (N q hq).2⟩
  show wpAny _ _ (do holding _ (assign (.Name n1 q1) env v1); do holding [] (assign (.Name n2 q2) env v2); pure ()) _ _ _
  refine wpAny_bind (wpAny_holding (wpAny_assign_Name (wpAny_storeName_local k1 F3.ns (fun h4 hn4 hs4 => ?_) hp)))
  replace hs4 : Heap.SameBut env.locals h3 h4 := hs4
  refine wpAny_bind (wpAny_holding (wpAny_assign_Name (wpAny_storeName_local k2 hn4 (fun h5 hn5 hs5 => wpAny_pure ?_) hp)))
  replace hs5 : Heap.SameBut env.locals h4 h5 := hs5
  have F4 : Fr h₀ env.locals h4 _ := F3.set hn4 hs4
  exact h h5 _ (F4.set hn5 hs5) fun q hq => ⟨hs5.extBut _ _ (N3 q hq).2.1 (hs4.extBut _ _ (N3 q hq).2.1 (N3 q hq).1), (N3 q hq).2⟩
end
theorem chk_other {c : Str} {n : Int} {r : List Str} (h1 : (c == Str.ofString "(") = false) (h2 : (c == Str.ofString ")") = false) : chkGo n (c :: r) = chkGo n r := by
  show (if _ then _ else (if _ then _ else _)) = _
  rw [if_neg (by rw [h1]; exact Bool.false_ne_true), if_neg (by rw [h2]; exact Bool.false_ne_true)]
theorem chk_open {c : Str} {n : Int} {r : List Str} (h1 : (c == Str.ofString "(") = true) : chkGo n (c :: r) = chkGo (n + 1) r := by
  show (if _ then _ else _) = _
  rw [if_pos h1]
theorem chk_shut {c : Str} {n : Int} {r : List Str} (h1 : (c == Str.ofString "(") = false) (h2 : (c == Str.ofString ")") = true) (h3 : ¬ n - 1 < 0) : chkGo n (c :: r) = chkGo (n - 1) r := by
  show (if _ then _ else (if _ then (if _ then _ else _) else _)) = _
  rw [if_neg (by rw [h1]; exact Bool.false_ne_true), if_pos h2, if_neg h3]
theorem chk_bad {c : Str} {n : Int} {r : List Str} (h1 : (c == Str.ofString "(") = false) (h2 : (c == Str.ofString ")") = true) (h3 : n - 1 < 0) : chkGo n (c :: r) = false := by
  show (if _ then _ else (if _ then (if _ then _ else _) else _)) = _
  rw [if_neg (by rw [h1]; exact Bool.false_ne_true), if_pos h2, if_pos h3]
theorem mOp_back {o : Int} {t : Tok} {mm : Str → Option Value} {v1 v2 : Value} : (fun y => if y = Str.ofString "ch" then some v2 else if y = Str.ofString "pos" then some v1 else mOp o t mm y) = mOp o t (fun y => if y = Str.ofString "ch" then some v2 else if y = Str.ofString "pos" then some v1 else mm y) := by
  funext y
  unfold mOp
  by_cases h : y = Str.ofString "opens"
  · subst h
    rw [if_neg (by decide +kernel), if_neg (by decide +kernel), if_pos rfl, if_pos rfl]
  · rw [if_neg h, if_neg h]
end Mine
end
section
open PySem PySem.W PySem.Spec PySem.Calls PyProof.Rows
open Sem (wp)
set_option Elab.async false
set_option maxRecDepth 100000
namespace Mine
def SameG (s s₁ : Shared) : Prop := ∃ h tk gens, s₁ = { s with heap := h, toks := tk, gens := gens } ∧ (AllBare s.gens → AllBare gens)
/-- the end of a turn of a loop over the generator -/
def GTurn (h₀ : Heap) (L : Addr) (R : Result → Shared → Prop) (all : List (Addr × Obj)) (J : (Str → Option Value) → Prop) (s₁ : Shared) (f : Flow) (s₂ : Shared) : Prop :=
  (∃ h tk, s₂ = { s₁ with heap := h, toks := tk }) ∧ match f with
    | .ret v => R (.ok (.ret v)) s₂
    | .brk => R (.ok .next) s₂
    | _ => ∃ m₂, Fr h₀ L s₂.heap m₂ ∧ News h₀ L s₂.heap all ∧ J m₂
section
variable {prog : Program} {w : World} {A : Around} {s : Shared} {env : Env} {h₀ : Heap}
theorem for_gen {R : Result → Shared → Prop} {E : Value → Shared → Prop} {a Lg : Addr} {g : Nat} {outs : List Str} {led news : List (Addr × Obj)} {m : Str → Option Value} {n1 n2 : Str} {q1 q2 qt : Pos} {k : Nat} {body : List Stmt}
    (J : Nat → (Str → Option Value) → Prop) (hh : A.handled = none) (hl : h₀.NoLimit) (hroom : A.depth < recursionLimit) (hLg : env.locals < Lg) (hLa : Lg < a) (hbase : h₀.objs.size ≤ Lg)
    (st : GAt prog w A a g Lg h₀ outs 0 led s.gens) (F : Fr h₀ env.locals s.heap m) (N : News h₀ env.locals s.heap (led ++ news)) (hne : ∀ q ∈ news, @LT.lt Nat _ q.1 Lg)
    (k1 : env.kindOf n1 = some .local) (k2 : env.kindOf n2 = some .local) (hp : (env.scope.kind == .class || (env.scope.kind == .module && env.locals != env.globals)) = false) (J0 : J 0 m)
    (hE : ∀ e s', E e s' → notedBy (model prog w) A env (fun e s' => R (.error e) s') e s')
    (turn : ∀ j c p tp tc m₁ s₁ led₁, SameG s s₁ → outs[j]? = some c → J j m₁ → Fr h₀ env.locals s₁.heap (fun y => if y = n2 then some (.str c tc) else if y = n1 then some (.int p tp) else m₁ y) → News h₀ env.locals s₁.heap (led₁ ++ news) →
      wpAny (model prog w) A (execs body env) (GTurn h₀ env.locals R (led₁ ++ news) (J (j + 1)) s₁) E s₁)
    (done : ∀ s₁ m₁, SameG s s₁ → J outs.length m₁ → Fr h₀ env.locals s₁.heap m₁ → News h₀ env.locals s₁.heap news → R (.ok .next) s₁) :
    codeAny (model prog w) A (.forLoop (.Tuple [.Name n1 q1, .Name n2 q2] k qt) (.ref a) body [] env) R s := by
  have hab : h₀.objs.size ≤ env.locals := F.above
  have hnot : ∀ {led' : List (Addr × Obj)} {h' : Heap}, (∀ q ∈ led', q.1 = Lg ∨ a ≤ q.1) → (∀ q ∈ led', h'.get? q.1 = some q.2) → News h₀ env.locals h' led' := fun h1 h2 q hq => by
    have h3 : Lg ≤ q.1 := by
      rcases h1 q hq with h | h
      · exact Nat.le_of_eq h.symm
      · exact Nat.le_trans (Nat.le_of_lt hLa) h
    exact ⟨h2 q hq, Nat.ne_of_gt (Nat.lt_of_lt_of_le hLg h3), Heap.get?_none_of_le (Nat.le_trans hbase h3)⟩
  have hrest : ∀ {h h' : Heap} {l : List (Addr × Obj)}, News h₀ env.locals h (l ++ news) → (∀ b o, b ≤ a → b ≠ Lg → h.get? b = some o → h'.get? b = some o) → News h₀ env.locals h' news := fun N1 hk q hq =>
    have h1 := N1 q (List.mem_append_right _ hq)
    ⟨hk _ _ (Nat.le_of_lt (Nat.lt_trans (hne q hq) hLa)) (Nat.ne_of_lt (hne q hq)) h1.1, h1.2⟩
  have hfr : ∀ {h h' : Heap} {m₁ : Str → Option Value}, Fr h₀ env.locals h m₁ → (∀ b o, b ≤ a → b ≠ Lg → h.get? b = some o → h'.get? b = some o) → Fr h₀ env.locals h' m₁ := fun F1 hk =>
    ⟨F1.ns.at' fun o e => hk _ o (Nat.le_of_lt (Nat.lt_trans hLg hLa)) (Nat.ne_of_lt hLg) e,
     fun b o e => hk b o (Nat.le_of_lt (Nat.lt_trans (Nat.lt_of_lt_of_le (Heap.lt_size e) hbase) hLa)) (Nat.ne_of_lt (Nat.lt_of_lt_of_le (Heap.lt_size e) hbase)) (F1.keep b o e), hab⟩
  have hbare : ∀ {x y : Array GenState}, GenOnlyQ g x y → AllBare x → AllBare y := fun q hx => q.bare hx
  refine codeAny_forLoop_any (fun n s₁ => ∃ j m₁ led₁, SameG s s₁ ∧ GAt prog w A a g Lg h₀ outs j led₁ s₁.gens ∧ Fr h₀ env.locals s₁.heap m₁ ∧ News h₀ env.locals s₁.heap (led₁ ++ news) ∧ J j m₁ ∧ j ≤ outs.length ∧ n = outs.length + 1 - j) ?_ (outs.length + 1)
    ⟨0, m, led, ⟨s.heap, s.toks, s.gens, rfl, id⟩, st, F, N, J0, Nat.zero_le _, rfl⟩
  rintro n s₁ ⟨j, m₁, led₁, ⟨hh1, tk1, g1, rfl, hb1⟩, st₁, F₁, N₁, hJ, hj, rfl⟩
  have hled : ∀ q ∈ led₁, hh1.get? q.1 = some q.2 := fun q hq => (N₁ q (List.mem_append_left _ hq)).1
  cases hv : outs[j]? with
  | none =>
    have hje : j = outs.length := Nat.le_antisymm hj (by simpa using hv)
    subst hje
    refine gat_done hh hl hroom hLa hbase st₁ hled F₁.keep fun h' tk gens' hg' hk => wpAny_execs_nil ?_
    exact done _ m₁ ⟨h', tk, gens', rfl, fun hb => hbare hg' (hb1 hb)⟩ hJ (hfr F₁ hk) (hrest N₁ hk)
  | some c =>
    have hjl : j < outs.length := by
      rcases Nat.lt_or_ge j outs.length with h | h
      · exact h
      · rw [List.getElem?_eq_none h] at hv; cases hv
    refine gat_next hh hl hroom hLa st₁ hled F₁.keep hv fun T p tp tc h' tk gens' led' hT hst' hled' hg' hk => ?_
    obtain ⟨⟨oa, nm, qn, hoa, hoc, hod, hos⟩, hwh, _⟩ := id hst'
    refine letGo_gen (hled' _ hoa) hoc hod ?_
    have N2 : News h₀ env.locals h' (led' ++ news) := fun q hq => by
      rcases List.mem_append.mp hq with hq | hq
      · exact hnot hwh hled' q hq
      · exact hrest N₁ hk q hq
    refine assign_two hh (hfr F₁ hk) N2 hT k1 k2 hp fun h2 tk2 F3 N3 => ?_
    have hsame : SameG s { s with heap := h2, toks := tk2, gens := gens' } := ⟨h2, tk2, gens', rfl, fun hb => hbare hg' (hb1 hb)⟩
    refine wpAny_mono (turn j c p tp tc m₁ { s with heap := h2, toks := tk2, gens := gens' } led' hsame hv hJ F3 N3) (fun f s₂ hf => ?_) hE
    obtain ⟨⟨h4, tk4, rfl⟩, hf⟩ := hf
    have next : (∃ m₂, Fr h₀ env.locals h4 m₂ ∧ News h₀ env.locals h4 (led' ++ news) ∧ J (j + 1) m₂) → ∃ m, m < outs.length + 1 - j ∧ ∃ j' m₁' led₁', SameG s { s with heap := h4, toks := tk4, gens := gens' } ∧ GAt prog w A a g Lg h₀ outs j' led₁' gens' ∧ Fr h₀ env.locals h4 m₁' ∧ News h₀ env.locals h4 (led₁' ++ news) ∧ J j' m₁' ∧ j' ≤ outs.length ∧ m = outs.length + 1 - j' := by
      rintro ⟨m₂, F4, N4, hJ'⟩
      exact ⟨outs.length + 1 - (j + 1), by omega, j + 1, m₂, led', ⟨h4, tk4, gens', rfl, fun hb => hbare hg' (hb1 hb)⟩, hst', F4, N4, hJ', hjl, rfl⟩
    cases f with
    | ret v => exact hf
    | brk => exact hf
    | next => exact next hf
    | cont => exact next hf
end
end Mine
end
section
open PySem PySem.W PySem.Spec PySem.Calls PyProof.Rows
open Sem (wp)
set_option Elab.async false
set_option maxRecDepth 100000
namespace Mine
section
variable {prog : Program} {w : World} {A : Around} {R : Result → Shared → Prop} {s : Shared} {env : Env} {elt i1 i2 : PySem.Expr} {x1 x2 : Str} {q1 q2 : Pos} {scope : Scope} {pos : Pos} {it acc : Value}
abbrev comp2 (elt i1 i2 : PySem.Expr) (x1 x2 : Str) (q1 q2 : Pos) (scope : Scope) (pos : Pos) : PySem.Expr := .ListComp elt [⟨.Name x1 q1, i1, [], 0⟩, ⟨.Name x2 q2, i2, [], 0⟩] scope pos
theorem never {α : Type} {M : Model} {A : Around} {t : Sem α} {Q : α → Shared → Prop} {E : Value → Shared → Prop} {s : Shared} (h : wpAny M A t Q (fun _ _ => False) s) : wpAny M A t Q E s := wpAny_mono h (fun _ _ x => x) fun _ _ x => x.elim
theorem compTurn_outer : compTurn (comp2 elt i1 i2 x1 x2 q1 q2 scope pos) 0 it acc env = (standAt i1.pos >>= fun _ => pyNext it >>= fun r => match r with
      | none => pure (.done .next)
      | some v => letOwnedTupleGo (.Name x1 q1) it v >>= fun _ => assign (.Name x1 q1) env v >>= fun _ =>
        eval i2 env >>= fun x => standAt i2.pos >>= fun _ => foldedSetIterable i2 env x >>= fun x => holding [x] (pyIter x) >>= fun it2 => runOwn (.compStart (comp2 elt i1 i2 x1 x2 q1 q2 scope pos) 1 it2 acc env) env >>= fun _ =>
          again (.compLoop (comp2 elt i1 i2 x1 x2 q1 q2 scope pos) 0 it acc env)) := by rfl
theorem compTurn_inner : compTurn (comp2 elt i1 i2 x1 x2 q1 q2 scope pos) 1 it acc env = (standAt i2.pos >>= fun _ => pyNext it >>= fun r => match r with
      | none => pure (.done .next)
      | some v => letOwnedTupleGo (.Name x2 q2) it v >>= fun _ => assign (.Name x2 q2) env v >>= fun _ =>
        (eval elt env >>= fun x => call (.builtin "list.append") [acc, x] >>= fun _ => pure ()) >>= fun _ =>
          again (.compLoop (comp2 elt i1 i2 x1 x2 q1 q2 scope pos) 1 it acc env)) := by rfl
theorem comp_outer (I : Nat → Shared → Prop) (hs : ∀ x, foldedSetIterable i2 env x = pure x)
    (turn : ∀ n s, I n s → wpAny (model prog w) A (pyNext it) (fun r s₁ => match r with
      | none => R (.ok .next) s₁
      | some v => wpAny (model prog w) A (assign (.Name x1 q1) env v) (fun _ s₂ => wpAny (model prog w) A (eval i2 env) (fun x s₃ => wpAny (model prog w) A (pyIter x) (fun it2 s₄ =>
          codeAny (model prog w) A (.compStart (comp2 elt i1 i2 x1 x2 q1 q2 scope pos) 1 it2 acc env) (fun r s₅ => (∃ f, r = .ok f) ∧ ∃ m, m < n ∧ I m s₅) s₄) (fun _ _ => False) s₃) (fun _ _ => False) s₂) (fun _ _ => False) s₁) (fun _ _ => False) s)
    (n : Nat) (h : I n s) : codeAny (model prog w) A (.compLoop (comp2 elt i1 i2 x1 x2 q1 q2 scope pos) 0 it acc env) R s := by
  refine codeAny_loop rfl I (fun n s hI => ?_) n h
  show wpAny _ _ ((compTurn (comp2 elt i1 i2 x1 x2 q1 q2 scope pos) 0 it acc env).onRaise (fun x => do noteFrame x env; theTreesLotGoes x)) _ _ s
  refine wpAny_noted (never ?_)
  rw [compTurn_outer]
  refine wpAny_bind (wpAny_standAt (wpAny_bind (wpAny_mono (turn n s hI) (fun r s₁ h₁ => ?_) fun _ _ h' => h')))
  cases r with
  | none => exact wpAny_pure h₁
  | some v =>
    refine wpAny_bind (wpAny_of_eq (rfl : letOwnedTupleGo (.Name x1 q1) it v = pure ()) ?_)
    refine wpAny_bind (wpAny_mono h₁ (fun _ s₂ h₂ => ?_) fun _ _ h' => h')
    refine wpAny_bind (wpAny_mono h₂ (fun x s₃ h₃ => ?_) fun _ _ h' => h')
    refine wpAny_bind (wpAny_standAt (wpAny_bind (wpAny_of_eq (hs x) (wpAny_bind (wpAny_holding (wpAny_mono h₃ (fun it2 s₄ h₄ => ?_) fun _ _ h' => h'))))))
    refine wpAny_bind (wpAny_runOwn (codeAny_mono h₄ fun r s₅ h₅ => ?_))
    obtain ⟨⟨f, rfl⟩, h₅⟩ := h₅
    exact wpAny_pure ⟨rfl, h₅⟩
theorem comp_inner (I : Nat → Shared → Prop)
    (turn : ∀ n s, I n s → wpAny (model prog w) A (pyNext it) (fun r s₁ => match r with
      | none => R (.ok .next) s₁
      | some v => wpAny (model prog w) A (assign (.Name x2 q2) env v) (fun _ s₂ => wpAny (model prog w) A (eval elt env) (fun x s₃ => wpAny (model prog w) A (call (.builtin "list.append") [acc, x]) (fun _ s₄ => ∃ m, m < n ∧ I m s₄)
          (fun _ _ => False) s₃) (fun _ _ => False) s₂) (fun _ _ => False) s₁) (fun _ _ => False) s)
    (n : Nat) (h : I n s) : codeAny (model prog w) A (.compLoop (comp2 elt i1 i2 x1 x2 q1 q2 scope pos) 1 it acc env) R s := by
  refine codeAny_loop rfl I (fun n s hI => ?_) n h
  show wpAny _ _ ((compTurn (comp2 elt i1 i2 x1 x2 q1 q2 scope pos) 1 it acc env).onRaise (fun x => do noteFrame x env; theTreesLotGoes x)) _ _ s
  refine wpAny_noted (never ?_)
  rw [compTurn_inner]
  refine wpAny_bind (wpAny_standAt (wpAny_bind (wpAny_mono (turn n s hI) (fun r s₁ h₁ => ?_) fun _ _ h' => h')))
  cases r with
  | none => exact wpAny_pure h₁
  | some v =>
    refine wpAny_bind (wpAny_of_eq (rfl : letOwnedTupleGo (.Name x2 q2) it v = pure ()) ?_)
    exact wpAny_bind (wpAny_mono h₁ (fun _ s₂ h₂ => wpAny_bind (wpAny_bind (wpAny_mono h₂ (fun x s₃ h₃ => wpAny_bind (wpAny_mono h₃
      (fun _ s₄ h₄ => wpAny_pure (wpAny_pure ⟨rfl, h₄⟩)) fun _ _ h' => h')) fun _ _ h' => h'))) fun _ _ h' => h')
theorem comp_start (d : Nat) (hd : d = 0 ∨ d = 1)
    (h0 : codeAny (model prog w) A (.compLoop (comp2 elt i1 i2 x1 x2 q1 q2 scope pos) d it acc env) R s)
    (h : wpAny (model prog w) A (pyIter it) (fun it' s' => codeAny (model prog w) A (.compLoop (comp2 elt i1 i2 x1 x2 q1 q2 scope pos) d it' acc env) R s') (fun _ _ => False) s) :
    codeAny (model prog w) A (.compStart (comp2 elt i1 i2 x1 x2 q1 q2 scope pos) d it acc env) R s := by
  refine codeAny_of_tree ?_
  show wpAny _ _ ((compStart (comp2 elt i1 i2 x1 x2 q1 q2 scope pos) d it acc env).onRaise (fun x => do noteFrame x env; standAt theWindowsPlace)) _ _ s
  refine wpAny_notedAt (never ?_)
  unfold compStart
  rcases hd with rfl | rfl
  all_goals
    show wpAny _ _ (ask >>= _) _ _ s
    refine wpAny_bind (wpAny_askSetting (wpAny_ite ?_))
    split
    · first
        | exact wpAny_bind (wpAny_pure (wpAny_pure (And.intro rfl h0)))
        | exact wpAny_pure (And.intro rfl h0)
    · first
        | exact wpAny_bind (wpAny_rule (wpAny_bind (wpAny_standAt (wpAny_bind (wpAny_mono h (fun it' s' h' => wpAny_pure (And.intro rfl h')) fun _ _ x => x)))))
        | (refine wpAny_bind (wpAny_rule ?_); show wpAny _ _ (standAt _ >>= _) _ _ s; exact wpAny_bind (wpAny_standAt (wpAny_bind (wpAny_mono h (fun it' s' h' => wpAny_pure (And.intro rfl h')) fun _ _ x => x))))
end
end Mine
end
section
open PySem PySem.W PySem.Spec PySem.Calls PyProof.Rows
open Sem (wp)
set_option Elab.async false
set_option maxRecDepth 100000
namespace Mine
open LCg (lst NsObj ns_obj)
abbrev rit (i n : Int) : Obj := { cls := .type "range_iterator", dict := none, data := .fields #[rawInt i, rawInt (n - i), rawInt 1], slots := #[] }
def Ap (a : Addr) (l : List (Addr × Obj)) : Prop := ∀ p ∈ l, p.1 ≠ a
/-- what an element of the inner iterable's making leaves -/
def CEnd1 (h₀ : Heap) (L : Addr) (m : Str → Option Value) (s : Shared) (I C D : Addr) (oI oC : Obj) (ys : List Value) (J1 : List (Addr × Obj) → Addr → List Value → Prop) (r : Value) (s' : Shared) : Prop :=
  ∃ l ws nn made' h' tk', r = .ref l ∧ s' = { s with heap := h', toks := tk' } ∧ Fr h₀ L h' m ∧ News h₀ L h' ((C, oC) :: (D, lst ys) :: (I, oI) :: made') ∧ Ap I made' ∧ Ap C made' ∧ Ap D made' ∧ (l, (listOf ws.toArray nn : Obj)) ∈ made' ∧ J1 made' l ws
def CEnd2 (h₀ : Heap) (L : Addr) (m : Str → Option Value) (s : Shared) (I C D Jt : Addr) (oI oC oJ : Obj) (ys : List Value) (l : Addr) (ol : Obj) (J2 : List (Addr × Obj) → Value → Prop) (v : Value) (s' : Shared) : Prop :=
  ∃ made' h' tk', s' = { s with heap := h', toks := tk' } ∧ Fr h₀ L h' m ∧ News h₀ L h' ((C, oC) :: (D, lst ys) :: (I, oI) :: (Jt, oJ) :: made') ∧ Ap I made' ∧ Ap C made' ∧ Ap D made' ∧ Ap Jt made' ∧ (l, ol) ∈ made' ∧ J2 made' v
section
variable {prog : Program} {w : World} {A : Around} {R : Result → Shared → Prop} {s : Shared} {env : Env} {elt i1 i2 : PySem.Expr} {x1 x2 : Str} {q1 q2 : Pos} {scope : Scope} {pos : Pos} {cl : List (Str × Addr)}
  {h₀ : Heap} {L : Addr} {m : Str → Option Value} {n : Nat}
  {J : Nat → List Value → List (Addr × Obj) → Prop} {J' : Nat → Nat → List Value → List (Addr × Obj) → Addr → List Value → Prop}
theorem fr_one {h h' : Heap} {a : Addr} (F : Fr h₀ L h m) (ha : L ≠ a) (h0 : h₀.get? a = none) (hk : ∀ b o, b ≠ a → h.get? b = some o → h'.get? b = some o) : Fr h₀ L h' m :=
  ⟨F.ns.at' fun o e => hk L o ha e, fun b o e => hk b o (fun q => by rw [q, h0] at e; cases e) (F.keep b o e), F.above⟩
theorem news_one {h h' : Heap} {a : Addr} {news : List (Addr × Obj)} (N : News h₀ L h news) (ha : Ap a news) (hk : ∀ b o, b ≠ a → h.get? b = some o → h'.get? b = some o) : News h₀ L h' news := fun p hp => ⟨hk _ _ (ha p hp) (N p hp).1, (N p hp).2⟩
/-- the inner loop -/
theorem comp_in (hh : A.handled = none) (hbd : ∀ i j ys made l ws, J' i j ys made l ws → ys.length ≤ sizeLine) {I C D Jt l : Addr} {oI : Obj} {ws : List Value} {nn : Nat} {i : Nat} {t : Tok} (hx2 : scope.names.lookup x2 = some .local) (hkind : scope.kind = .function) (hx12 : x1 ≠ x2)
    (d1 : C ≠ D) (d2 : I ≠ C) (d3 : I ≠ D) (d4 : Jt ≠ C) (d5 : Jt ≠ D) (d6 : Jt ≠ I) (hC0 : h₀.get? C = none ∧ C ≠ L) (hD0 : h₀.get? D = none ∧ D ≠ L) (hJ0 : h₀.get? Jt = none ∧ Jt ≠ L)
    (t2 : ∀ j v ys made oC oJ m₂ h tk, J' i j ys made l ws → ws[j]? = some v → NsObj oC m₂ → m₂ x1 = some (.int i t) → m₂ x2 = some v → Fr h₀ L h m → News h₀ L h ((C, oC) :: (D, lst ys) :: (I, oI) :: (Jt, oJ) :: made) → (l, (listOf ws.toArray nn : Obj)) ∈ made → Ap I made → Ap C made → Ap D made → Ap Jt made →
      wpAny (model prog w) A (eval elt (compEnvC scope cl C env)) (CEnd2 h₀ L m { s with heap := h, toks := tk } I C D Jt oI oC oJ ys l (listOf ws.toArray nn) (fun made' v => J' i (j + 1) (ys ++ [v]) made' l ws)) (fun _ _ => False) { s with heap := h, toks := tk })
    {h : Heap} {tk : Nat} {ys : List Value} {made : List (Addr × Obj)} {oC : Obj} {m₂ : Str → Option Value} (hNs : NsObj oC m₂) (hm1 : m₂ x1 = some (.int i t)) (F : Fr h₀ L h m) (N : News h₀ L h ((C, oC) :: (D, lst ys) :: (I, oI) :: made)) (apI : Ap I made) (apC : Ap C made) (apD : Ap D made) (apJ : Ap Jt made)
    (hl : (l, (listOf ws.toArray nn : Obj)) ∈ made) (hJt : h.IsListIter Jt l 0) (hJ : J' i 0 ys made l ws)
    (done : ∀ ys made oC m₂ h tk, NsObj oC m₂ → Fr h₀ L h m → News h₀ L h ((C, oC) :: (D, lst ys) :: (I, oI) :: made) → Ap I made → Ap C made → Ap D made → J' i ws.length ys made l ws → R (.ok .next) { s with heap := h, toks := tk }) :
    codeAny (model prog w) A (.compLoop (comp2 elt i1 i2 x1 x2 q1 q2 scope pos) 1 (.ref Jt) (.ref D) (compEnvC scope cl C env)) R { s with heap := h, toks := tk } := by
  have hlJ : l ≠ Jt := apJ _ hl
  have W := Walks.list (prog := prog) (w := w) hh Jt l hlJ ws.toArray
  have hsz : ws.toArray.size = ws.length := by simp
  rw [hsz] at W
  refine comp_inner (fun k s' => ∃ j ys made oC m₂ h tk, s' = { s with heap := h, toks := tk } ∧ j ≤ ws.length ∧ k = ws.length + 1 - j ∧ NsObj oC m₂ ∧ m₂ x1 = some (.int i t) ∧ Fr h₀ L h m ∧ News h₀ L h ((C, oC) :: (D, lst ys) :: (I, oI) :: made) ∧ Ap I made ∧ Ap C made ∧ Ap D made ∧ Ap Jt made ∧
      (l, (listOf ws.toArray nn : Obj)) ∈ made ∧ h.IsListIter Jt l j ∧ J' i j ys made l ws) ?_ (ws.length + 1) ⟨0, ys, made, oC, m₂, h, tk, rfl, Nat.zero_le _, rfl, hNs, hm1, F, N, apI, apC, apD, apJ, hl, hJt, hJ⟩
  rintro k s' ⟨j, ys, made, oC, m₂, h, tk, rfl, hj, rfl, hNs, hm1, F, N, apI, apC, apD, apJ, hl, hJt, hJ⟩
  have hlst : ∀ {h : Heap} {made : List (Addr × Obj)} {rest : List (Addr × Obj)}, News h₀ L h (rest ++ made) → (l, (listOf ws.toArray nn : Obj)) ∈ made → h.IsList l ws.toArray := fun N hl => ⟨_, (N _ (List.mem_append_right _ hl)).1, rfl, nn, rfl⟩
  have hl1 := hlst (rest := [_, _, _]) N hl
  by_cases hlt : j < ws.length
  · refine W.item j _ _ _ hlt ⟨hJt, hl1⟩ fun v h1 tk1 hv hst1 hk1 => ?_
    have hv' : ws[j]? = some v := by simpa using hv
    have hk1' : ∀ b o, b ≠ Jt → h.get? b = some o → h1.get? b = some o := fun b o hb e => hk1 b o (by simpa using hb) e
    have F1 : Fr h₀ L h1 m := fr_one F (Ne.symm hJ0.2) hJ0.1 hk1'
    have apJ' : Ap Jt ((C, oC) :: (D, lst ys) :: (I, oI) :: made) := List.forall_mem_cons.mpr ⟨Ne.symm d4, List.forall_mem_cons.mpr ⟨Ne.symm d5, List.forall_mem_cons.mpr ⟨Ne.symm d6, apJ⟩⟩⟩
    have N1 : News h₀ L h1 _ := news_one N apJ' hk1'
    obtain ⟨oJ, heJ, hJc, hJd⟩ := id hst1.1
    have hC1 : h1.Ns C m₂ := hNs.ns (N1 _ (.head _)).1
    refine wpAny_assign_Name (wpAny_storeName_local (env := compEnvC scope cl C env) (lookup_relabel_local hx2) hC1 (fun h2 hn2 hs2 => ?_) (by simp [compEnvC, relabel, hkind]))
    replace hs2 : Heap.SameBut C h1 h2 := hs2
    replace hn2 : h2.Ns C (fun y => if y = x2 then some v else m₂ y) := hn2
    obtain ⟨oC2, heC2, hNs2⟩ := ns_obj hn2
    have hk2 : ∀ b o, b ≠ C → h1.get? b = some o → h2.get? b = some o := fun b o hb e => hs2.extBut b o hb e
    have F2 : Fr h₀ L h2 m := fr_one F1 (Ne.symm hC0.2) hC0.1 hk2
    have N2 : News h₀ L h2 ((C, oC2) :: (D, lst ys) :: (I, oI) :: (Jt, oJ) :: made) := by
      refine List.forall_mem_cons.mpr ⟨⟨heC2, hC0.2, hC0.1⟩, List.forall_mem_cons.mpr ⟨?_, List.forall_mem_cons.mpr ⟨?_, List.forall_mem_cons.mpr ⟨⟨hk2 _ _ d4 heJ, hJ0.2, hJ0.1⟩, ?_⟩⟩⟩⟩
      · exact ⟨hk2 _ _ (Ne.symm d1) (N1 _ (.tail _ (.head _))).1, (N1 _ (.tail _ (.head _))).2⟩
      · exact ⟨hk2 _ _ d2 (N1 _ (.tail _ (.tail _ (.head _)))).1, (N1 _ (.tail _ (.tail _ (.head _)))).2⟩
      · exact fun p hp => ⟨hk2 _ _ (apC p hp) (N1 _ (.tail _ (.tail _ (.tail _ hp)))).1, (N1 _ (.tail _ (.tail _ (.tail _ hp)))).2⟩
    refine wpAny_mono (t2 j v ys made oC2 oJ _ h2 _ hJ hv' hNs2 (by show (if _ then _ else _) = _; rw [if_neg hx12]; exact hm1) (by show (if _ then _ else _) = _; rw [if_pos rfl]) F2 N2 hl apI apC apD apJ) (fun y s3 hy => ?_) fun _ _ x => x
    obtain ⟨made3, h3, tk3, rfl, F3, N3, ap1, ap2, ap3, ap4, hl3, hJ3⟩ := hy
    have zD := (N3 _ (.tail _ (.head _))).1
    refine append_at (hsz := by show ys.toArray.size ≤ sizeLine; rw [List.size_toArray]; exact hbd _ _ _ _ _ _ hJ) zD fun h4 hs4 hD4 => ?_
    replace hs4 : Heap.SameBut D h3 h4 := hs4
    have hk4 : ∀ b o, b ≠ D → h3.get? b = some o → h4.get? b = some o := fun b o hb e => hs4.extBut b o hb e
    have N4 : News h₀ L h4 ((C, oC2) :: (D, lst (ys ++ [y])) :: (I, oI) :: made3) := by
      refine List.forall_mem_cons.mpr ⟨?_, List.forall_mem_cons.mpr ⟨⟨hD4.trans (congrArg some (LCg.lst_snoc ys y)), hD0.2, hD0.1⟩, List.forall_mem_cons.mpr ⟨?_, ?_⟩⟩⟩
      · exact ⟨hk4 _ _ d1 (N3 _ (.head _)).1, (N3 _ (.head _)).2⟩
      · exact ⟨hk4 _ _ d3 (N3 _ (.tail _ (.tail _ (.head _)))).1, (N3 _ (.tail _ (.tail _ (.head _)))).2⟩
      · exact fun p hp => ⟨hk4 _ _ (ap3 p hp) (N3 _ (.tail _ (.tail _ (.tail _ (.tail _ hp))))).1, (N3 _ (.tail _ (.tail _ (.tail _ (.tail _ hp))))).2⟩
    have hJ4 : h4.IsListIter Jt l (j + 1) := ⟨oJ, hk4 _ _ d5 (N3 _ (.tail _ (.tail _ (.tail _ (.head _))))).1, hJc, hJd⟩
    exact ⟨ws.length + 1 - (j + 1), by omega, j + 1, ys ++ [y], made3, oC2, _, h4, tk3, rfl, hlt, rfl, hNs2, (by show (if _ then _ else _) = _; rw [if_neg hx12]; exact hm1), fr_one F3 (Ne.symm hD0.2) hD0.1 hk4, N4, ap1, ap2, ap3, ap4, hl3, hJ4, hJ3⟩
  · have hje : j = ws.length := by omega
    subst hje
    refine W.done _ _ _ ⟨hJt, hl1⟩ fun h1 tk1 hk1 => ?_
    have hk1' : ∀ b o, b ≠ Jt → h.get? b = some o → h1.get? b = some o := fun b o hb e => hk1 b o (by simpa using hb) e
    have apJ' : Ap Jt ((C, oC) :: (D, lst ys) :: (I, oI) :: made) := List.forall_mem_cons.mpr ⟨Ne.symm d4, List.forall_mem_cons.mpr ⟨Ne.symm d5, List.forall_mem_cons.mpr ⟨Ne.symm d6, apJ⟩⟩⟩
    exact done ys made oC m₂ h1 tk1 hNs (fr_one F (Ne.symm hJ0.2) hJ0.1 hk1') (news_one N apJ' hk1') apI apC apD hJ
/-- the outer loop -/
theorem comp_out (hh : A.handled = none) (hbd : ∀ i j ys made l ws, J' i j ys made l ws → ys.length ≤ sizeLine) {I C D : Addr} (hs : ∀ x, foldedSetIterable i2 (compEnvC scope cl C env) x = pure x) (hx1 : scope.names.lookup x1 = some .local) (hx2 : scope.names.lookup x2 = some .local) (hkind : scope.kind = .function) (hx12 : x1 ≠ x2)
    (d1 : C ≠ D) (d2 : I ≠ C) (d3 : I ≠ D) (hC0 : h₀.get? C = none ∧ C ≠ L) (hD0 : h₀.get? D = none ∧ D ≠ L) (hI0 : h₀.get? I = none ∧ I ≠ L)
    (t1 : ∀ i ys made oI oC m₂ t h tk, i < n → J i ys made → NsObj oC m₂ → m₂ x1 = some (.int i t) → Fr h₀ L h m → News h₀ L h ((C, oC) :: (D, lst ys) :: (I, oI) :: made) → Ap I made → Ap C made → Ap D made →
      wpAny (model prog w) A (eval i2 (compEnvC scope cl C env)) (CEnd1 h₀ L m { s with heap := h, toks := tk } I C D oI oC ys (fun made' l ws => J' i 0 ys made' l ws)) (fun _ _ => False) { s with heap := h, toks := tk })
    (t2 : ∀ i j t v ys made l ws nn Jt oI oC oJ m₂ h tk, i < n → J' i j ys made l ws → ws[j]? = some v → NsObj oC m₂ → m₂ x1 = some (.int i t) → m₂ x2 = some v → Fr h₀ L h m → News h₀ L h ((C, oC) :: (D, lst ys) :: (I, oI) :: (Jt, oJ) :: made) → (l, (listOf ws.toArray nn : Obj)) ∈ made → Ap I made → Ap C made → Ap D made → Ap Jt made →
      wpAny (model prog w) A (eval elt (compEnvC scope cl C env)) (CEnd2 h₀ L m { s with heap := h, toks := tk } I C D Jt oI oC oJ ys l (listOf ws.toArray nn) (fun made' v => J' i (j + 1) (ys ++ [v]) made' l ws)) (fun _ _ => False) { s with heap := h, toks := tk })
    (link : ∀ i ys made l ws, J' i ws.length ys made l ws → J (i + 1) ys made)
    {h : Heap} {tk : Nat} {ys : List Value} {made : List (Addr × Obj)} {oC : Obj} {m₂ : Str → Option Value} (hNs : NsObj oC m₂) (F : Fr h₀ L h m) (N : News h₀ L h ((C, oC) :: (D, lst ys) :: made)) (apI : Ap I made) (apC : Ap C made) (apD : Ap D made)
    (hI : IsRangeIter h I (0 + ((0 : Nat) : Int) * 1) ((n : Int) - ((0 : Nat) : Int)) 1) (hJ : J 0 ys made)
    (done : ∀ ys made oC m₂ h tk, NsObj oC m₂ → Fr h₀ L h m → News h₀ L h ((C, oC) :: (D, lst ys) :: made) → Ap C made → Ap D made → J n ys made → R (.ok .next) { s with heap := h, toks := tk }) :
    codeAny (model prog w) A (.compLoop (comp2 elt i1 i2 x1 x2 q1 q2 scope pos) 0 (.ref I) (.ref D) (compEnvC scope cl C env)) R { s with heap := h, toks := tk } := by
  have W := Walks.range (prog := prog) (w := w) hh I 0 1 n
  refine comp_outer (fun k s' => ∃ i ys made oC m₂ h tk, s' = { s with heap := h, toks := tk } ∧ i ≤ n ∧ k = n + 1 - i ∧ NsObj oC m₂ ∧ Fr h₀ L h m ∧ News h₀ L h ((C, oC) :: (D, lst ys) :: made) ∧ Ap I made ∧ Ap C made ∧ Ap D made ∧
      IsRangeIter h I (0 + (i : Int) * 1) ((n : Int) - (i : Int)) 1 ∧ J i ys made) hs ?_ (n + 1) ⟨0, ys, made, oC, m₂, h, tk, rfl, Nat.zero_le _, rfl, hNs, F, N, apI, apC, apD, hI, hJ⟩
  rintro k s' ⟨i, ys, made, oC, m₂, h, tk, rfl, hi, rfl, hNs, F, N, apI, apC, apD, hI, hJ⟩
  have apI' : Ap I ((C, oC) :: (D, lst ys) :: made) := List.forall_mem_cons.mpr ⟨Ne.symm d2, List.forall_mem_cons.mpr ⟨Ne.symm d3, apI⟩⟩
  by_cases hlt : i < n
  · refine W.item i _ _ _ hlt hI fun v h1 tk1 hv hst1 hk1 => ?_
    obtain ⟨t, rfl⟩ := hv
    have hk1' : ∀ b o, b ≠ I → h.get? b = some o → h1.get? b = some o := fun b o hb e => hk1 b o (by simpa using hb) e
    have F1 : Fr h₀ L h1 m := fr_one F (Ne.symm hI0.2) hI0.1 hk1'
    have N1 : News h₀ L h1 _ := news_one N apI' hk1'
    have hC1 : h1.Ns C m₂ := hNs.ns (N1 _ (.head _)).1
    refine wpAny_assign_Name (wpAny_storeName_local (env := compEnvC scope cl C env) (lookup_relabel_local hx1) hC1 (fun h2 hn2 hs2 => ?_) (by simp [compEnvC, relabel, hkind]))
    replace hs2 : Heap.SameBut C h1 h2 := hs2
    replace hn2 : h2.Ns C (fun y => if y = x1 then some (.int (0 + (i : Int) * 1) t) else m₂ y) := hn2
    obtain ⟨oC2, heC2, hNs2⟩ := ns_obj hn2
    have hk2 : ∀ b o, b ≠ C → h1.get? b = some o → h2.get? b = some o := fun b o hb e => hs2.extBut b o hb e
    have F2 : Fr h₀ L h2 m := fr_one F1 (Ne.symm hC0.2) hC0.1 hk2
    have hI2 : IsRangeIter h2 I (0 + ((i + 1 : Nat) : Int) * 1) ((n : Int) - ((i + 1 : Nat) : Int)) 1 := hk2 _ _ d2 hst1
    have N2 : News h₀ L h2 ((C, oC2) :: (D, lst ys) :: (I, { cls := .type "range_iterator", dict := none, data := .fields #[rawInt (0 + ((i + 1 : Nat) : Int) * 1), rawInt ((n : Int) - ((i + 1 : Nat) : Int)), rawInt 1], slots := #[] }) :: made) := by
      refine List.forall_mem_cons.mpr ⟨⟨heC2, hC0.2, hC0.1⟩, List.forall_mem_cons.mpr ⟨?_, List.forall_mem_cons.mpr ⟨⟨hI2, hI0.2, hI0.1⟩, ?_⟩⟩⟩
      · exact ⟨hk2 _ _ (Ne.symm d1) (N1 _ (.tail _ (.head _))).1, (N1 _ (.tail _ (.head _))).2⟩
      · exact fun p hp => ⟨hk2 _ _ (apC p hp) (N1 _ (.tail _ (.tail _ hp))).1, (N1 _ (.tail _ (.tail _ hp))).2⟩
    have hm1 : (fun y => if y = x1 then some (Value.int (0 + (i : Int) * 1) t) else m₂ y) x1 = some (.int i t) := by
      show (if _ then _ else _) = _
      rw [if_pos rfl, Int.mul_one, Int.zero_add]
    refine wpAny_mono (t1 i ys made _ oC2 _ t h2 _ hlt hJ hNs2 hm1 F2 N2 apI apC apD) (fun r s3 hr => ?_) fun _ _ x => x
    obtain ⟨l, ws, nn, made3, h3, tk3, rfl, rfl, F3, N3, ap1, ap2, ap3, hl3, hJ3⟩ := hr
    have hz : ∀ p ∈ (C, oC2) :: (D, lst ys) :: (I, _) :: made3, p.1 ≠ h3.objs.size := fun p hp => Nat.ne_of_lt (Heap.lt_size (N3 p hp).1)
    have hll : h3.IsList l ws.toArray := ⟨_, (N3 _ (.tail _ (.tail _ (.tail _ hl3)))).1, rfl, nn, rfl⟩
    refine wpAny_pyIter_list hll ?_
    have hJ0 : h₀.get? h3.objs.size = none ∧ h3.objs.size ≠ L := ⟨Heap.get?_none_of_le (Nat.le_trans F3.above (Nat.le_of_lt F3.ns.lt)), Nat.ne_of_gt F3.ns.lt⟩
    have keep4 : ∀ b o, h3.get? b = some o → (h3.push { cls := .type "list_iterator", data := .fields #[.ref l, .int 0 0] }).get? b = some o := fun b o e => Heap.get?_push_of_some _ e
    have F4 : Fr h₀ L (h3.push { cls := .type "list_iterator", data := .fields #[.ref l, .int 0 0] }) m := F3.keeps keep4
    have N4 : News h₀ L (h3.push { cls := .type "list_iterator", data := .fields #[.ref l, .int 0 0] }) _ := fun p hp => ⟨keep4 _ _ (N3 p hp).1, (N3 p hp).2⟩
    have hJt : (h3.push { cls := .type "list_iterator", data := .fields #[.ref l, .int 0 0] }).IsListIter h3.objs.size l 0 := ⟨_, Heap.get?_push_size _ rfl, rfl, rfl⟩
    have loop := comp_in (prog := prog) (w := w) (s := s) (i1 := i1) (i2 := i2) (q1 := q1) (q2 := q2) (pos := pos) (env := env) (cl := cl) (elt := elt) (tk := tk3) (R := fun r s₅ => (∃ f, r = .ok f) ∧ ∃ m_1, m_1 < n + 1 - i ∧ ∃ i ys made oC m₂ h tk, s₅ = { s with heap := h, toks := tk } ∧ i ≤ n ∧ m_1 = n + 1 - i ∧ NsObj oC m₂ ∧ Fr h₀ L h m ∧ News h₀ L h ((C, oC) :: (D, lst ys) :: made) ∧ Ap I made ∧ Ap C made ∧ Ap D made ∧
        IsRangeIter h I (0 + (i : Int) * 1) ((n : Int) - (i : Int)) 1 ∧ J i ys made) (J' := J') hh hbd hx2 hkind hx12 d1 d2 d3 (Ne.symm (hz _ (.head _))) (Ne.symm (hz _ (.tail _ (.head _)))) (Ne.symm (hz _ (.tail _ (.tail _ (.head _))))) hC0 hD0 hJ0
      (fun j v ys made oC oJ m₂ h tk a1 a2 a3 a4 a5 a6 a7 a8 a9 a10 a11 a12 => t2 i j t v ys made l ws nn _ _ oC oJ m₂ h tk hlt a1 a2 a3 a4 a5 a6 a7 a8 a9 a10 a11 a12) hNs2 hm1 F4 N4 ap1 ap2 ap3 (fun p hp => hz p (.tail _ (.tail _ (.tail _ hp)))) hl3 hJt hJ3
      (fun ys made oC m₂ h tk b1 b2 b3 b4 b5 b6 b7 => ⟨⟨_, rfl⟩, n + 1 - (i + 1), by omega, i + 1, ys, made, oC, m₂, h, tk, rfl, hlt, rfl, b1, b2, ?_, b4, b5, b6, (b3 _ (.tail _ (.tail _ (.head _)))).1, link _ _ _ _ _ b7⟩)
    · exact comp_start 1 (.inr rfl) loop (wpAny_pyIter_listiter hJt loop)
    · refine List.forall_mem_cons.mpr ⟨b3 _ (.head _), List.forall_mem_cons.mpr ⟨b3 _ (.tail _ (.head _)), fun p hp => b3 _ (.tail _ (.tail _ (.tail _ hp)))⟩⟩
  · have hje : i = n := by omega
    subst hje
    refine W.done _ _ _ hI fun h1 tk1 hk1 => ?_
    have hk1' : ∀ b o, b ≠ I → h.get? b = some o → h1.get? b = some o := fun b o hb e => hk1 b o (by simpa using hb) e
    exact done ys made oC m₂ h1 tk1 hNs (fr_one F (Ne.symm hI0.2) hI0.1 hk1') (news_one N apI' hk1') apC apD hJ
end
end Mine
end
section
open PySem PySem.W PySem.Spec PySem.Calls PyProof.Rows
open Sem (wp)
set_option Elab.async false
set_option maxRecDepth 100000
namespace Mine
open LCg (lst NsObj ns_obj)
section
variable {prog : Program} {w : World} {A : Around} {s : Shared} {env : Env} {elt i1 i2 : PySem.Expr} {x1 x2 : Str} {q1 q2 : Pos} {scope : Scope} {pos : Pos} {cl : List (Str × Addr)}
  {h₀ : Heap} {L : Addr} {m : Str → Option Value} {n : Nat}
  {J : Nat → List Value → List (Addr × Obj) → Prop} {J' : Nat → Nat → List Value → List (Addr × Obj) → Addr → List Value → Prop} {E : Value → Shared → Prop} {Q : Value → Shared → Prop}
theorem comp_block (hh : A.handled = none) (hbd : ∀ i j ys made l ws, J' i j ys made l ws → ys.length ≤ sizeLine) {I : Addr} (hs : ∀ C x, foldedSetIterable i2 (compEnvC scope cl C env) x = pure x) (hcell : ∀ y ∈ scope.names, y.2 ≠ .cell) (hx1 : scope.names.lookup x1 = some .local) (hx2 : scope.names.lookup x2 = some .local) (hkind : scope.kind = .function) (hx12 : x1 ≠ x2)
    (hI0 : h₀.get? I = none ∧ I ≠ L) {news : List (Addr × Obj)} (F : Fr h₀ L s.heap m) (N : News h₀ L s.heap news) (apI : Ap I news) (hI : IsRangeIter s.heap I 0 n 1)
    (t1 : ∀ C D i ys made oI oC m₂ t h tk, D < C → I < D → (∀ p ∈ news, @LT.lt Nat _ p.1 D) → i < n → J i ys made → NsObj oC m₂ → m₂ x1 = some (.int i t) → Fr h₀ L h m → News h₀ L h ((C, oC) :: (D, lst ys) :: (I, oI) :: made) → Ap I made → Ap C made → Ap D made →
      wpAny (model prog w) A (eval i2 (compEnvC scope cl C env)) (CEnd1 h₀ L m { s with heap := h, toks := tk } I C D oI oC ys (fun made' l ws => J' i 0 ys made' l ws)) (fun _ _ => False) { s with heap := h, toks := tk })
    (t2 : ∀ C D i j t v ys made l ws nn Jt oI oC oJ m₂ h tk, D < C → I < D → (∀ p ∈ news, @LT.lt Nat _ p.1 D) → i < n → J' i j ys made l ws → ws[j]? = some v → NsObj oC m₂ → m₂ x1 = some (.int i t) → m₂ x2 = some v → Fr h₀ L h m → News h₀ L h ((C, oC) :: (D, lst ys) :: (I, oI) :: (Jt, oJ) :: made) → (l, (listOf ws.toArray nn : Obj)) ∈ made → Ap I made → Ap C made → Ap D made → Ap Jt made →
      wpAny (model prog w) A (eval elt (compEnvC scope cl C env)) (CEnd2 h₀ L m { s with heap := h, toks := tk } I C D Jt oI oC oJ ys l (listOf ws.toArray nn) (fun made' v => J' i (j + 1) (ys ++ [v]) made' l ws)) (fun _ _ => False) { s with heap := h, toks := tk })
    (link : ∀ i ys made l ws, J' i ws.length ys made l ws → J (i + 1) ys made) (hJ : J 0 [] news)
    (done : ∀ D ys made h tk, (∀ p ∈ news, @LT.lt Nat _ p.1 D) → Fr h₀ L h m → News h₀ L h ((D, lst ys) :: made) → Ap D made → J n ys made → Q (.ref D) { s with heap := h, toks := tk }) :
    wpAny (model prog w) A (newList []) (fun acc s₃ => wpAny (model prog w) A (newFunctionEnv scope env.globals cl [] env.qual none .none (some env)) (fun cenv s₄ =>
      codeAny (model prog w) A (.compStart (comp2 elt i1 i2 x1 x2 q1 q2 scope pos) 0 (.ref I) acc { cenv with scope := relabel scope env }) (compPost (model prog w) A E none Q acc cenv.locals) s₄) E s₃) E s := by
  refine wpAny_newObj_type (wpAny_newFunctionEnv hcell (by intro y hy; simp at hy) (fun h₁ hns₁ hsb₁ => ?_) hkind)
  dsimp only at hns₁ hsb₁ ⊢
  generalize hH2 : s.heap.push { cls := .type "list", dict := none, data := .seq ([] : List Value).toArray } = H2 at hns₁ hsb₁ ⊢
  have hC : H2.objs.size = s.heap.objs.size + 1 := by rw [← hH2, Heap.size_push]
  have hDC : s.heap.objs.size < H2.objs.size := by rw [hC]; exact Nat.lt_succ_self _
  have hIlt : I < s.heap.objs.size := Heap.lt_size hI
  have old : ∀ b o, s.heap.get? b = some o → h₁.get? b = some o := fun b o e => hsb₁.extBut b o (Nat.ne_of_lt (Nat.lt_trans (Heap.lt_size e) hDC)) (Heap.get?_push_of_some _ (hH2 ▸ Heap.get?_push_of_some _ e))
  have hacc : h₁.get? s.heap.objs.size = some (lst []) := hsb₁.extBut _ _ (Nat.ne_of_lt hDC) (Heap.get?_push_of_some _ (hH2 ▸ Heap.get?_push_size _ rfl))
  have hLs : L < s.heap.objs.size := F.ns.lt
  have hab := F.above
  have fresh : ∀ a, s.heap.objs.size ≤ a → h₀.get? a = none ∧ a ≠ L := fun a ha => ⟨Heap.get?_none_of_le (Nat.le_trans hab (Nat.le_trans (Nat.le_of_lt hLs) ha)), Nat.ne_of_gt (Nat.lt_of_lt_of_le hLs ha)⟩
  have hnl : ∀ p ∈ news, @LT.lt Nat _ p.1 s.heap.objs.size := fun p hp => Heap.lt_size (N p hp).1
  obtain ⟨oC, heC, hNs⟩ := ns_obj hns₁
  have N1 : News h₀ L h₁ ((H2.objs.size, oC) :: (s.heap.objs.size, lst []) :: news) := by
    refine List.forall_mem_cons.mpr ⟨⟨heC, (fresh _ (Nat.le_of_lt hDC)).2, (fresh _ (Nat.le_of_lt hDC)).1⟩, List.forall_mem_cons.mpr ⟨⟨hacc, (fresh _ (Nat.le_refl _)).2, (fresh _ (Nat.le_refl _)).1⟩, fun p hp => ⟨old _ _ (N p hp).1, (N p hp).2⟩⟩⟩
  have hI1 : IsRangeIter h₁ I (0 + ((0 : Nat) : Int) * 1) ((n : Int) - ((0 : Nat) : Int)) 1 := by
    have e1 : (0 : Int) + ((0 : Nat) : Int) * 1 = 0 := by decide
    have e2 : (n : Int) - ((0 : Nat) : Int) = n := by omega
    rw [e1, e2]
    exact old _ _ hI
  have loop : codeAny (model prog w) A (.compLoop (comp2 elt i1 i2 x1 x2 q1 q2 scope pos) 0 (.ref I) (.ref s.heap.objs.size) (compEnvC scope cl H2.objs.size env)) (compPost (model prog w) A E none Q (.ref s.heap.objs.size) H2.objs.size) { s with heap := h₁, toks := s.toks + ([] : List (Str × Value)).length } :=
    comp_out (J := J) (J' := J') hh hbd (hs _) hx1 hx2 hkind hx12 (Nat.ne_of_gt hDC) (Nat.ne_of_lt (Nat.lt_trans hIlt hDC)) (Nat.ne_of_lt hIlt) (fresh _ (Nat.le_of_lt hDC)) (fresh _ (Nat.le_refl _)) hI0
      (fun i ys made oI oC m₂ t h tk => t1 _ _ i ys made oI oC m₂ t h tk hDC hIlt hnl) (fun i j t v ys made l ws nn Jt oI oC oJ m₂ h tk => t2 _ _ i j t v ys made l ws nn Jt oI oC oJ m₂ h tk hDC hIlt hnl) link hNs (F.keeps old) N1 apI
      (fun p hp => Nat.ne_of_lt (Nat.lt_trans (hnl p hp) hDC)) (fun p hp => Nat.ne_of_lt (hnl p hp)) hI1 hJ (fun ys made oC m₂ h tk b1 b2 b3 b4 b5 b6 => ⟨m₂, b1.ns (b3 _ (.head _)).1, fun h' hs' => by
        have hk' : ∀ b o, b ≠ H2.objs.size → h.get? b = some o → h'.get? b = some o := fun b o hb e => hs'.extBut b o hb e
        refine done _ ys made h' tk hnl (fr_one b2 (Ne.symm (fresh _ (Nat.le_of_lt hDC)).2) (fresh _ (Nat.le_of_lt hDC)).1 hk') ?_ b5 b6
        exact List.forall_mem_cons.mpr ⟨⟨hk' _ _ (Nat.ne_of_lt hDC) (b3 _ (.tail _ (.head _))).1, (b3 _ (.tail _ (.head _))).2⟩, fun p hp => ⟨hk' _ _ (b4 p hp) (b3 _ (.tail _ (.tail _ hp))).1, (b3 _ (.tail _ (.tail _ hp))).2⟩⟩⟩)
  exact comp_start 0 (.inl rfl) loop (wpAny_pyIter_rangeiter hI1 loop)
end
end Mine
end
section
open PySem PySem.W PySem.Spec PySem.Calls PyProof.Rows
set_option maxRecDepth 100000
namespace Mine
/-- the rows of c numbers from 0 to 3 that make t -/
def rowsL : Nat → Int → List (List Int)
  | 0, t => if t = 0 then [[]] else []
  | c + 1, t => (List.range ((min t 3).toNat + 1)).flatMap fun (f : Nat) => (rowsL c (t - (f : Int))).map ((f : Int) :: ·)
/-- the ledger bears the rows -/
inductive RowVals (led : List (Addr × Obj)) : List Value → List (List Int) → Prop where
  | nil : RowVals led [] []
  | cons {r : Addr} {ws : List Value} {k : Nat} {row : List Int} {vs : List Value} {rows : List (List Int)} : (r, (listOf ws.toArray k : Obj)) ∈ led → IntsAre ws row → RowVals led vs rows → RowVals led (.ref r :: vs) (row :: rows)
theorem RowVals.mono {led led' : List (Addr × Obj)} {vs : List Value} {rows : List (List Int)} (h : RowVals led vs rows) (hs : ∀ p ∈ led, p ∈ led') : RowVals led' vs rows := by
  induction h with
  | nil => exact .nil
  | cons hm hi _ ih => exact .cons (hs _ hm) hi ih
theorem RowVals.length {led : List (Addr × Obj)} {vs : List Value} {rows : List (List Int)} (h : RowVals led vs rows) : vs.length = rows.length := by
  induction h with
  | nil => rfl
  | cons _ _ _ ih => simp [ih]
theorem RowVals.snoc {led : List (Addr × Obj)} {vs : List Value} {rows : List (List Int)} {r : Addr} {ws : List Value} {k : Nat} {row : List Int} (h : RowVals led vs rows) (hm : (r, (listOf ws.toArray k : Obj)) ∈ led) (hi : IntsAre ws row) : RowVals led (vs ++ [.ref r]) (rows ++ [row]) := by
  induction h with
  | nil => exact .cons hm hi .nil
  | cons a b _ ih => exact .cons a b ih
theorem RowVals.get {led : List (Addr × Obj)} {vs : List Value} {rows : List (List Int)} (h : RowVals led vs rows) : ∀ {j : Nat} {v : Value}, vs[j]? = some v → ∃ r ws k row, v = .ref r ∧ rows[j]? = some row ∧ (r, (listOf ws.toArray k : Obj)) ∈ led ∧ IntsAre ws row := by
  induction h with
  | nil => intro j v e; cases e
  | cons a b _ ih =>
    intro j v e
    cases j with
    | zero => simp only [List.getElem?_cons_zero, Option.some.injEq] at e; subst e; exact ⟨_, _, _, _, rfl, rfl, a, b⟩
    | succ j => exact ih (by simpa using e)
theorem rowsL_len : ∀ (c : Nat) (t : Int), (rowsL c t).length ≤ 4 ^ c
  | 0, t => by unfold rowsL; split <;> simp
  | c + 1, t => by
    unfold rowsL
    rw [List.length_flatMap]
    have h : ∀ l : List Nat, (l.map fun (f : Nat) => ((rowsL c (t - (f : Int))).map ((f : Int) :: ·)).length).sum ≤ l.length * 4 ^ c := by
      intro l
      induction l with
      | nil => simp
      | cons f l ih =>
        simp only [List.map_cons, List.sum_cons, List.length_map, List.length_cons]
        have := rowsL_len c (t - f)
        rw [Nat.add_mul, Nat.one_mul]
        simp only [List.length_map] at ih
        omega
    refine Nat.le_trans (h _) ?_
    rw [List.length_range, Nat.pow_succ, Nat.mul_comm]
    exact Nat.mul_le_mul_left _ (by omega)
/-- the rows told so far: i first numbers, j rows of the next -/
def rowsTo (c : Nat) (t : Int) (i j : Nat) : List (List Int) := ((List.range i).flatMap fun (f : Nat) => (rowsL c (t - (f : Int))).map ((f : Int) :: ·)) ++ ((rowsL c (t - i)).take j).map ((i : Int) :: ·)
theorem rowsTo_zero (c : Nat) (t : Int) : rowsTo c t 0 0 = [] := by simp [rowsTo]
theorem rowsTo_step (c : Nat) (t : Int) (i j : Nat) {row : List Int} (h : (rowsL c (t - i))[j]? = some row) : rowsTo c t i (j + 1) = rowsTo c t i j ++ [(i : Int) :: row] := by
  have e : (rowsL c (t - i)).take (j + 1) = (rowsL c (t - i)).take j ++ [row] := by rw [List.take_add_one, h]; rfl
  simp only [rowsTo, e, List.map_append, List.map_cons, List.map_nil, List.append_assoc]
theorem rowsTo_next (c : Nat) (t : Int) (i : Nat) : rowsTo c t i (rowsL c (t - i)).length = rowsTo c t (i + 1) 0 := by
  simp only [rowsTo, List.take_length, List.range_succ, List.flatMap_append, List.flatMap_cons, List.flatMap_nil, List.append_nil, List.take_zero, List.map_nil]
theorem rowsTo_end (c : Nat) (t : Int) : rowsTo c t ((min t 3).toNat + 1) 0 = rowsL (c + 1) t := by
  show _ = (List.range ((min t 3).toNat + 1)).flatMap fun (f : Nat) => (rowsL c (t - (f : Int))).map ((f : Int) :: ·)
  simp only [rowsTo, List.take_zero, List.map_nil, List.append_nil]
end Mine
namespace Mine
theorem small_of {t : Int} (h0 : 0 ≤ t) (h3 : t ≤ 3) : Builtin.Range.small 0 (t + 1) 1 = true ∧ Builtin.Range.rangeSize 0 (t + 1) 1 = (((min t 3).toNat + 1 : Nat) : Int) := by
  have : t = 0 ∨ t = 1 ∨ t = 2 ∨ t = 3 := by omega
  rcases this with rfl | rfl | rfl | rfl <;> exact ⟨by decide, by decide⟩
theorem four_le {c : Nat} (h : c ≤ 4) : 4 ^ c ≤ 256 := by
  have : c = 0 ∨ c = 1 ∨ c = 2 ∨ c = 3 ∨ c = 4 := by omega
  rcases this with rfl | rfl | rfl | rfl | rfl <;> decide
theorem rowsTo_len (c : Nat) (t : Int) (i j : Nat) : (rowsTo c t i j).length ≤ (i + 1) * 4 ^ c := by
  have h : ∀ l : List Nat, (l.flatMap fun (f : Nat) => (rowsL c (t - (f : Int))).map ((f : Int) :: ·)).length ≤ l.length * 4 ^ c := by
    intro l
    induction l with
    | nil => simp
    | cons f l ih =>
      simp only [List.flatMap_cons, List.length_append, List.length_map, List.length_cons]
      have := rowsL_len c (t - f)
      rw [Nat.add_mul, Nat.one_mul]
      omega
  have h2 := h (List.range i)
  have h3 := rowsL_len c (t - i)
  rw [List.length_range] at h2
  simp only [rowsTo, List.length_append, List.length_map, List.length_take]
  rw [Nat.add_mul, Nat.one_mul]
  omega
/-- the ledger's part of the rows' making: outer, inner -/
def JR (c : Nat) (t : Int) (news : List (Addr × Obj)) (i : Nat) (ys : List Value) (made : List (Addr × Obj)) : Prop :=
  ∃ own, made = own ++ news ∧ RowVals own ys (rowsTo c t i 0) ∧ ∀ p ∈ own, ∀ q ∈ news, @LT.lt Nat _ q.1 p.1
def JR' (c : Nat) (t : Int) (news : List (Addr × Obj)) (i j : Nat) (ys : List Value) (made : List (Addr × Obj)) (_ : Addr) (ws : List Value) : Prop :=
  ∃ own, made = own ++ news ∧ i < 4 ∧ RowVals own ys (rowsTo c t i j) ∧ RowVals own ws (rowsL c (t - i)) ∧ ∀ p ∈ own, ∀ q ∈ news, @LT.lt Nat _ q.1 p.1
theorem JR'_bd {c : Nat} {t : Int} {news : List (Addr × Obj)} (hc : c ≤ 4) : ∀ i j ys made l ws, JR' c t news i j ys made l ws → ys.length ≤ sizeLine := by
  rintro i j ys made l ws ⟨own, _, hi, hR, _, _⟩
  rw [hR.length]
  refine Nat.le_trans (rowsTo_len c t i j) ?_
  have h1 := four_le hc
  have h2 : (i + 1) * 4 ^ c ≤ 4 * 256 := Nat.mul_le_mul (by omega) h1
  exact Nat.le_trans h2 (by decide +kernel)
theorem JR_link {c : Nat} {t : Int} {news : List (Addr × Obj)} : ∀ i ys made l ws, JR' c t news i ws.length ys made l ws → JR c t news (i + 1) ys made := by
  rintro i ys made l ws ⟨own, e, _, hR, hW, hA⟩
  refine ⟨own, e, ?_, hA⟩
  rw [← rowsTo_next, ← hW.length]
  exact hR
end Mine
namespace Mine
theorem ap_grow {a lp : Addr × Obj} {own2 own led NEWS : List (Addr × Obj)} (hl : ∀ q ∈ led, @LT.lt Nat _ q.1 lp.1) (ho : ∀ p ∈ own2, ∀ q ∈ led, @LT.lt Nat _ q.1 p.1) (ha : a ∈ led) (h : Ap a.1 (own ++ NEWS)) : Ap a.1 ((lp :: (own2 ++ own)) ++ NEWS) := by
  intro p hp
  rcases List.mem_append.mp hp with hp | hp
  · rcases List.mem_cons.mp hp with rfl | hp
    · exact Nat.ne_of_gt (hl a ha)
    · rcases List.mem_append.mp hp with hp | hp
      · exact Nat.ne_of_gt (ho p hp a ha)
      · exact h p (List.mem_append_left _ hp)
  · exact h p (List.mem_append_right _ hp)
theorem above_grow {lp : Addr × Obj} {own2 own led NEWS : List (Addr × Obj)} (hl : ∀ q ∈ led, @LT.lt Nat _ q.1 lp.1) (ho : ∀ p ∈ own2, ∀ q ∈ led, @LT.lt Nat _ q.1 p.1) (hs : ∀ p ∈ NEWS, p ∈ led) (hA : ∀ p ∈ own, ∀ q ∈ NEWS, @LT.lt Nat _ q.1 p.1) :
    ∀ p ∈ lp :: (own2 ++ own), ∀ q ∈ NEWS, @LT.lt Nat _ q.1 p.1 := by
  intro p hp q hq
  rcases List.mem_cons.mp hp with rfl | hp
  · exact hl q (hs q hq)
  · rcases List.mem_append.mp hp with hp | hp
    · exact ho p hp q (hs q hq)
    · exact hA p hp q hq
end Mine
namespace Mine
theorem rowsL_row : ∀ (c : Nat) (t : Int), ∀ row ∈ rowsL c t, row.length = c
  | 0, t, row, h => by
    unfold rowsL at h
    split at h
    · rw [List.mem_singleton.mp h]; rfl
    · cases h
  | c + 1, t, row, h => by
    unfold rowsL at h
    obtain ⟨f, _, hf⟩ := List.mem_flatMap.mp h
    obtain ⟨r, hr, rfl⟩ := List.mem_map.mp hf
    rw [List.length_cons, rowsL_row c _ r hr]
theorem rowVals_row {c : Nat} {t : Int} {j : Nat} {row : List Int} {wr : List Value} (h : (rowsL c t)[j]? = some row) (hi : IntsAre wr row) : wr.length = c := by
  rw [hi.length]
  exact rowsL_row c t row (List.mem_of_getElem? h)
theorem ap_one {a : Addr} {lp : Addr × Obj} {own NEWS : List (Addr × Obj)} (hl : @LT.lt Nat _ a lp.1) (h : Ap a (own ++ NEWS)) : Ap a ((lp :: own) ++ NEWS) := by
  intro p hp
  rcases List.mem_append.mp hp with hp | hp
  · rcases List.mem_cons.mp hp with rfl | hp
    · exact Nat.ne_of_gt hl
    · exact h p (List.mem_append_left _ hp)
  · exact h p (List.mem_append_right _ hp)
end Mine
namespace Mine
theorem news_lt {h₀ h : Heap} {L : Addr} {l : List (Addr × Obj)} (N : News h₀ L h l) : ∀ q ∈ l, @LT.lt Nat _ q.1 h.objs.size := fun q hq => Heap.lt_size (N q hq).1
theorem sub_two {α : Type} {a x y : α} {own news : List α} : ∀ p ∈ a :: (own ++ news), p ∈ a :: (own ++ (x :: y :: news)) := fun p hp => by
  simp only [List.mem_cons, List.mem_append] at hp ⊢
  grind
end Mine
namespace Mine
theorem sub_t1 {α : Type} {C D I x y : α} {own news : List α} : ∀ p ∈ C :: D :: I :: x :: y :: (own ++ news), p ∈ C :: D :: I :: (own ++ (x :: y :: news)) := fun p hp => by
  simp only [List.mem_cons, List.mem_append] at hp ⊢
  grind
theorem sub_t1b {α : Type} {C D I x y l : α} {own own2 news : List α} : ∀ p ∈ C :: D :: I :: ((l :: (own2 ++ own)) ++ (x :: y :: news)), p ∈ l :: (own2 ++ (C :: D :: I :: x :: y :: (own ++ news))) := fun p hp => by
  simp only [List.mem_cons, List.mem_append] at hp ⊢
  grind
theorem sub_t1c {α : Type} {C D I x y : α} {own news : List α} : ∀ p ∈ (x :: y :: news), p ∈ C :: D :: I :: x :: y :: (own ++ news) := fun p hp => by
  simp only [List.mem_cons, List.mem_append] at hp ⊢
  grind
theorem sub_t2 {α : Type} {C D I J x y : α} {own news : List α} : ∀ p ∈ C :: D :: I :: J :: x :: y :: (own ++ news), p ∈ C :: D :: I :: J :: (own ++ (x :: y :: news)) := fun p hp => by
  simp only [List.mem_cons, List.mem_append] at hp ⊢
  grind
theorem sub_t2b {α : Type} {C D I J x y n t : α} {own news : List α} : ∀ p ∈ C :: D :: I :: J :: ((n :: own) ++ (x :: y :: news)), p ∈ n :: t :: C :: D :: I :: J :: x :: y :: (own ++ news) := fun p hp => by
  simp only [List.mem_cons, List.mem_append] at hp ⊢
  grind
theorem sub_t2c {α : Type} {C D I J x y t : α} {own news : List α} : ∀ p ∈ (x :: y :: news), p ∈ t :: C :: D :: I :: J :: x :: y :: (own ++ news) := fun p hp => by
  simp only [List.mem_cons, List.mem_append] at hp ⊢
  grind
end Mine
end
section
open PySem PySem.W PySem.Spec PySem.Calls PyProof.Rows
open Sem (wp)
set_option Elab.async false
set_option maxRecDepth 100000
namespace Mine
open LCg (lst NsObj ns_obj)
theorem SameG.refl (s : Shared) : SameG s s := ⟨s.heap, s.toks, s.gens, rfl, id⟩
theorem SameG.trans {a b c : Shared} (x : SameG a b) (y : SameG b c) : SameG a c := by
  obtain ⟨h1, t1, g1, rfl, b1⟩ := x
  obtain ⟨h2, t2, g2, rfl, b2⟩ := y
  exact ⟨h2, t2, g2, rfl, fun h => b2 (b1 h)⟩
theorem SameG.mk' (s : Shared) (h : Heap) (tk : Nat) : SameG s { s with heap := h, toks := tk } := ⟨h, tk, s.gens, rfl, id⟩
theorem SameG.mkg (s : Shared) (h : Heap) (tk : Nat) (g : Array GenState) (hb : AllBare s.gens → AllBare g) : SameG s { s with heap := h, toks := tk, gens := g } := ⟨h, tk, g, rfl, hb⟩
/-- the end of a turn of a for -/
def LTurn (h₀ : Heap) (L : Addr) (R : Result → Shared → Prop) (I : Addr) (oI : Obj) (J : (Str → Option Value) → List (Addr × Obj) → Prop) (s₁ : Shared) (f : Flow) (s₂ : Shared) : Prop :=
  SameG s₁ s₂ ∧ match f with
    | .ret v => R (.ok (.ret v)) s₂
    | .brk => R (.ok .next) s₂
    | _ => ∃ m₂ news, Fr h₀ L s₂.heap m₂ ∧ News h₀ L s₂.heap ((I, oI) :: news) ∧ Ap I news ∧ J m₂ news
section
variable {prog : Program} {w : World} {A : Around} {s : Shared} {env : Env} {h₀ : Heap}
theorem for_walk {R : Result → Shared → Prop} {E : Value → Shared → Prop} {I : Addr} {src : List (Addr × Obj)} {n : Nat} {P : Nat → Value → Prop} {St : Nat → Heap → Prop} {x : Str} {px : Pos} {body : List Stmt} {m : Str → Option Value} {news : List (Addr × Obj)}
    (W : Walks prog w A I (I :: src.map (·.1)) [I] n P St) (hlive : ∀ i h, St i h → ∃ o, h.get? I = some o) (J : Nat → (Str → Option Value) → List (Addr × Obj) → Prop) (hI0 : h₀.get? I = none ∧ I ≠ env.locals) (hsrcI : ∀ p ∈ src, p.1 ≠ I)
    (hsrc : ∀ j m₁ news, J j m₁ news → ∀ p ∈ src, p ∈ news)
    (hx : env.kindOf x = some .local) (hp : (env.scope.kind == .class || (env.scope.kind == .module && env.locals != env.globals)) = false) (hsrcL : ∀ p ∈ src, p.1 ≠ env.locals)
    (hst : St 0 s.heap) (F : Fr h₀ env.locals s.heap m) (N : News h₀ env.locals s.heap news) (apI : Ap I news) (J0 : J 0 m news)
    (hE : ∀ e s', E e s' → notedBy (model prog w) A env (fun e s' => R (.error e) s') e s')
    (turn : ∀ j v m₁ news s₁ oI, SameG s s₁ → j < n → P j v → J j m₁ news → Fr h₀ env.locals s₁.heap (fun y => if y = x then some v else m₁ y) → News h₀ env.locals s₁.heap ((I, oI) :: news) → Ap I news →
      wpAny (model prog w) A (execs body env) (LTurn h₀ env.locals R I oI (J (j + 1)) s₁) E s₁)
    (done : ∀ s₁ m₁ news, SameG s s₁ → J n m₁ news → Fr h₀ env.locals s₁.heap m₁ → News h₀ env.locals s₁.heap news → R (.ok .next) s₁) :
    codeAny (model prog w) A (.forLoop (.Name x px) (.ref I) body [] env) R s := by
  refine codeAny_forLoop_any (fun k s₁ => ∃ j m₁ news, SameG s s₁ ∧ j ≤ n ∧ k = n + 1 - j ∧ St j s₁.heap ∧ Fr h₀ env.locals s₁.heap m₁ ∧ News h₀ env.locals s₁.heap news ∧ Ap I news ∧ J j m₁ news) ?_ (n + 1) ⟨0, m, news, SameG.refl s, Nat.zero_le _, rfl, hst, F, N, apI, J0⟩
  rintro k s₁ ⟨j, m₁, news, hsame, hj, rfl, hst, F, N, apI, hJ⟩
  by_cases hlt : j < n
  · refine W.item j s₁ _ _ hlt hst fun v h1 tk1 hv hst1 hk1 => ?_
    have hk1' : ∀ b o, b ≠ I → s₁.heap.get? b = some o → h1.get? b = some o := fun b o hb e => hk1 b o (by simpa using hb) e
    refine wpAny_of_eq (rfl : letOwnedTupleGo (.Name x px) (.ref I) v = pure ()) ?_
    have F1 : Fr h₀ env.locals h1 m₁ := fr_one F (Ne.symm hI0.2) hI0.1 hk1'
    have N1 : News h₀ env.locals h1 news := news_one N apI hk1'
    refine wpAny_assign_Name (wpAny_storeName_local hx F1.ns (fun h2 hn2 hs2 => ?_) hp)
    replace hs2 : Heap.SameBut env.locals h1 h2 := hs2
    have F2 : Fr h₀ env.locals h2 (fun y => if y = x then some v else m₁ y) := F1.set hn2 hs2
    obtain ⟨oI, hoI⟩ := hlive _ _ hst1
    have hoI2 : h2.get? I = some oI := hs2.extBut I oI hI0.2 hoI
    have N2 : News h₀ env.locals h2 ((I, oI) :: news) := List.forall_mem_cons.mpr ⟨⟨hoI2, hI0.2, hI0.1⟩, fun q hq => ⟨hs2.extBut _ _ (N1 q hq).2.1 (N1 q hq).1, (N1 q hq).2⟩⟩
    have hst2 : St (j + 1) h2 := W.frame _ _ _ hst1 fun b hb o e => hs2.extBut b o (by
      rcases List.mem_cons.mp hb with rfl | hb
      · exact hI0.2
      · obtain ⟨p, hp', rfl⟩ := List.mem_map.mp hb
        exact hsrcL p hp') e
    refine wpAny_mono (turn j v m₁ news { s₁ with heap := h2, toks := _ } oI (hsame.trans (SameG.mk' _ _ _)) hlt hv hJ F2 N2 apI) (fun f s₂ hf => ?_) hE
    obtain ⟨hs12, hf⟩ := hf
    have next : (∃ m₂ news, Fr h₀ env.locals s₂.heap m₂ ∧ News h₀ env.locals s₂.heap ((I, oI) :: news) ∧ Ap I news ∧ J (j + 1) m₂ news) → ∃ k', k' < n + 1 - j ∧ ∃ j m₁ news, SameG s s₂ ∧ j ≤ n ∧ k' = n + 1 - j ∧ St j s₂.heap ∧ Fr h₀ env.locals s₂.heap m₁ ∧ News h₀ env.locals s₂.heap news ∧ Ap I news ∧ J j m₁ news := by
      rintro ⟨m₂, news2, F3, N3, ap3, hJ3⟩
      refine ⟨n + 1 - (j + 1), by omega, j + 1, m₂, news2, (hsame.trans (SameG.mk' _ _ _)).trans hs12, hlt, rfl, W.frame _ _ _ hst2 fun b hb o e => ?_, F3, fun q hq => N3 q (.tail _ hq), ap3, hJ3⟩
      rcases List.mem_cons.mp hb with rfl | hb
      · rw [show h2.get? b = some oI from hoI2] at e
        rw [← e]; exact (N3 _ (.head _)).1
      · obtain ⟨p, hp', rfl⟩ := List.mem_map.mp hb
        have e2 := (N2 p (.tail _ (hsrc _ _ _ hJ p hp'))).1
        rw [show h2.get? p.1 = some p.2 from e2] at e
        rw [← e]; exact (N3 p (.tail _ (hsrc _ _ _ hJ3 p hp'))).1
    cases f with
    | ret v => exact hf
    | brk => exact hf
    | next => exact next hf
    | cont => exact next hf
  · have hje : j = n := by omega
    subst hje
    refine W.done s₁ _ _ hst fun h1 tk1 hk1 => wpAny_execs_nil ?_
    have hk1' : ∀ b o, b ≠ I → s₁.heap.get? b = some o → h1.get? b = some o := fun b o hb e => hk1 b o (by simpa using hb) e
    exact done _ m₁ news (hsame.trans (SameG.mk' _ _ _)) hJ (fr_one F (Ne.symm hI0.2) hI0.1 hk1') (news_one N apI hk1')
/-- a for over a list of the ledger -/
theorem for_list {R : Result → Shared → Prop} {E : Value → Shared → Prop} {ax : Addr} {lo : Obj} {vs : List Value} {nn : Nat} {x : Str} {px : Pos} {body : List Stmt} {m : Str → Option Value} {news : List (Addr × Obj)}
    (J : Nat → (Str → Option Value) → List (Addr × Obj) → Prop) (hlo : lo = listOf vs.toArray nn) (hh : A.handled = none) (hm : (ax, lo) ∈ news) (hsrc : ∀ j m₁ news, J j m₁ news → (ax, lo) ∈ news)
    (hx : env.kindOf x = some .local) (hp : (env.scope.kind == .class || (env.scope.kind == .module && env.locals != env.globals)) = false)
    (F : Fr h₀ env.locals s.heap m) (N : News h₀ env.locals s.heap news) (J0 : J 0 m news)
    (hE : ∀ e s', E e s' → notedBy (model prog w) A env (fun e s' => R (.error e) s') e s')
    (turn : ∀ j v m₁ news s₁ I oI, SameG s s₁ → vs[j]? = some v → J j m₁ news → Fr h₀ env.locals s₁.heap (fun y => if y = x then some v else m₁ y) → News h₀ env.locals s₁.heap ((I, oI) :: news) → Ap I news →
      wpAny (model prog w) A (execs body env) (LTurn h₀ env.locals R I oI (J (j + 1)) s₁) E s₁)
    (done : ∀ s₁ m₁ news, SameG s s₁ → J vs.length m₁ news → Fr h₀ env.locals s₁.heap m₁ → News h₀ env.locals s₁.heap news → R (.ok .next) s₁) :
    wpAny (model prog w) A (pyIter (.ref ax)) (fun it s₂ => codeAny (model prog w) A (.forLoop (.Name x px) it body [] env) R s₂) E s := by
  have hax := N _ hm
  have hl : s.heap.IsList ax vs.toArray := ⟨lo, hax.1, by rw [hlo], nn, by rw [hlo]⟩
  have hlt : ax < s.heap.objs.size := Heap.lt_size hax.1
  have hne : ax ≠ s.heap.objs.size := Nat.ne_of_lt hlt
  refine wpAny_pyIter_list hl ?_
  have W := Walks.list (prog := prog) (w := w) hh s.heap.objs.size ax hne vs.toArray
  have hlen : vs.toArray.size = vs.length := by simp
  rw [hlen] at W
  have hL : env.locals < s.heap.objs.size := F.ns.lt
  refine for_walk (src := [(ax, lo)]) W (fun i h st => by obtain ⟨⟨o, ho, _⟩, _⟩ := st; exact ⟨o, ho⟩) J ⟨Heap.get?_none_of_le (Nat.le_trans F.above (Nat.le_of_lt hL)), Nat.ne_of_gt hL⟩ (fun p hp => by rw [List.mem_singleton.mp hp]; exact hne)
    (fun j m₁ news hJ p hp => by rw [List.mem_singleton.mp hp]; exact hsrc _ _ _ hJ) hx hp (fun p hp => by rw [List.mem_singleton.mp hp]; exact hax.2.1) ⟨⟨_, Heap.get?_push_size _ rfl, rfl, rfl⟩, hl.at fun o e => Heap.get?_push_of_some _ e⟩ (F.push _)
    (fun p hp => ⟨Heap.get?_push_of_some _ (N p hp).1, (N p hp).2⟩) (fun p hp => Nat.ne_of_lt (Heap.lt_size (N p hp).1)) J0 hE (fun j v m₁ news s₁ oI h1 h2 h3 => turn j v m₁ news s₁ _ oI ((SameG.mkg s _ _ _ id).trans h1) (by simpa using h3)) (fun s₁ m₁ news h1 => done s₁ m₁ news ((SameG.mkg s _ _ _ id).trans h1))
/-- a for over a range by ones -/
theorem for_range {R : Result → Shared → Prop} {E : Value → Shared → Prop} {r : Addr} {a b : Int} {t1 t2 t3 : Tok} {n : Nat} {x : Str} {px : Pos} {body : List Stmt} {m : Str → Option Value} {news : List (Addr × Obj)}
    (J : Nat → (Str → Option Value) → List (Addr × Obj) → Prop) (hh : A.handled = none) (hr : IsRange s.heap r a b 1 t1 t2 t3) (hsmall : Builtin.Range.small a b 1 = true) (hn : Builtin.Range.rangeSize a b 1 = (n : Int))
    (hx : env.kindOf x = some .local) (hp : (env.scope.kind == .class || (env.scope.kind == .module && env.locals != env.globals)) = false)
    (F : Fr h₀ env.locals s.heap m) (N : News h₀ env.locals s.heap news) (J0 : J 0 m news)
    (hE : ∀ e s', E e s' → notedBy (model prog w) A env (fun e s' => R (.error e) s') e s')
    (turn : ∀ j t m₁ news s₁ I oI, SameG s s₁ → j < n → J j m₁ news → Fr h₀ env.locals s₁.heap (fun y => if y = x then some (.int (a + (j : Int)) t) else m₁ y) → News h₀ env.locals s₁.heap ((I, oI) :: news) → Ap I news →
      wpAny (model prog w) A (execs body env) (LTurn h₀ env.locals R I oI (J (j + 1)) s₁) E s₁)
    (done : ∀ s₁ m₁ news, SameG s s₁ → J n m₁ news → Fr h₀ env.locals s₁.heap m₁ → News h₀ env.locals s₁.heap news → R (.ok .next) s₁) :
    wpAny (model prog w) A (pyIter (.ref r)) (fun it s₂ => codeAny (model prog w) A (.forLoop (.Name x px) it body [] env) R s₂) E s := by
  refine wpAny_pyIter_range hr hsmall ?_
  have W := Walks.range (prog := prog) (w := w) hh s.heap.objs.size a 1 n
  have hL : env.locals < s.heap.objs.size := F.ns.lt
  rw [hn]
  refine for_walk (src := []) W (fun i h st => ⟨_, st⟩) J ⟨Heap.get?_none_of_le (Nat.le_trans F.above (Nat.le_of_lt hL)), Nat.ne_of_gt hL⟩ (fun p hp => nomatch hp)
    (fun j m₁ news hJ p hp => nomatch hp) hx hp (fun p hp => nomatch hp) (by show IsRangeIter _ _ _ _ _; simpa using Heap.get?_push_size _ rfl) (F.push _)
    (fun p hp => ⟨Heap.get?_push_of_some _ (N p hp).1, (N p hp).2⟩) (fun p hp => Nat.ne_of_lt (Heap.lt_size (N p hp).1)) J0 hE (fun j v m₁ news s₁ oI h1 h2 h3 h4 h5 => ?_) (fun s₁ m₁ news h1 => done s₁ m₁ news ((SameG.mkg s _ _ _ id).trans h1))
  obtain ⟨t, rfl⟩ := h3
  rw [Int.mul_one] at h5
  exact turn j t m₁ news s₁ _ oI ((SameG.mkg s _ _ _ id).trans h1) h2 h4 h5
end
end Mine
end
section
open PySem PySem.W PySem.Spec PySem.Calls PyProof.Rows
open Sem (wp)
set_option Elab.async false
set_option maxRecDepth 100000
namespace Mine
theorem digs_get (n : Nat) : ∀ {k : Nat} {x : Int} {i : Nat}, i < k → (digs n k x)[i]? = some (x / 2 ^ (n * i) % 2 ^ n)
  | k + 1, x, 0, _ => by simp [digs]
  | k + 1, x, i + 1, h => by
    rw [digs, List.getElem?_cons_succ, digs_get n (Nat.lt_of_succ_lt_succ h), Int.ediv_ediv_of_nonneg (Int.le_of_lt (Int.pow_pos (by decide))), ← Int.pow_add, Nat.mul_add, Nat.mul_one, Nat.add_comm]
theorem hi_step4 (n m : Nat) (x : Int) : x / 2 ^ (n * m) = 2 ^ n * (x / 2 ^ (n * (m + 1))) + x / 2 ^ (n * m) % 2 ^ n := by
  have h := Int.mul_ediv_add_emod (x / 2 ^ (n * m)) (2 ^ n)
  rw [Int.ediv_ediv_of_nonneg (Int.le_of_lt (Int.pow_pos (by decide))), ← Int.pow_add, show n * m + n = n * (m + 1) from rfl] at h
  exact h.symm
theorem horner {n m : Nat} {x b r r' q : Int} {qs : List Int} (h : dsum n qs.reverse * b + r = x / 2 ^ (n * (m + 1))) (e : q * b + r' = r * 2 ^ n + x / 2 ^ (n * m) % 2 ^ n) : dsum n (qs ++ [q]).reverse * b + r' = x / 2 ^ (n * m) := by
  rw [List.reverse_append, List.reverse_singleton, List.singleton_append, dsum, hi_step4 n m x, ← h]
  generalize x / 2 ^ (n * m) % 2 ^ n = d at e
  generalize (2 : Int) ^ n = p at e
  generalize dsum n qs.reverse = D
  clear h
  grind
theorem ints_get4 {vs : List Value} {ns : List Int} (h : IntsAre vs ns) : ∀ {i : Nat} {v : Value}, vs[i]? = some v → ∃ d t, v = .int d t ∧ ns[i]? = some d := by
  induction h with
  | nil => intro i v e; simp at e
  | cons n t _ ih =>
    intro i v e
    cases i with
    | zero => rw [List.getElem?_cons_zero] at e; exact ⟨n, t, (Option.some.inj e).symm, rfl⟩
    | succ i => rw [List.getElem?_cons_succ] at e ⊢; exact ih e
theorem rev_digit {vs : List Value} {n T : Nat} {x : Int} {j : Nat} {v : Value} (hI : IntsAre vs (digs n T x)) (hv : vs.reverse[j]? = some v) : ∃ m t, T - j = m + 1 ∧ T - (j + 1) = m ∧ v = .int (x / 2 ^ (n * m) % 2 ^ n) t := by
  have hl : vs.length = T := by rw [hI.length, digs_length]
  have hj : j < T := by
    have := (List.getElem?_eq_some_iff.mp hv).1
    rwa [List.length_reverse, hl] at this
  rw [List.getElem?_reverse (by rw [hl]; exact hj), hl] at hv
  obtain ⟨d, t, rfl, hd⟩ := ints_get4 hI hv
  have h1 : T - j = T - 1 - j + 1 := by omega
  rw [digs_get n (by omega)] at hd
  exact ⟨T - 1 - j, t, h1, by omega, by rw [Option.some.inj hd]⟩
theorem ints_append {ys zs : List Value} {ns ms : List Int} (h : IntsAre ys ns) (h2 : IntsAre zs ms) : IntsAre (ys ++ zs) (ns ++ ms) := by
  induction h with
  | nil => exact h2
  | cons a b _ ih => exact .cons _ _ ih
theorem ints_rev {ys : List Value} {ns : List Int} (h : IntsAre ys ns) : IntsAre ys.reverse ns.reverse := by
  induction h with
  | nil => exact .nil
  | cons a b _ ih => rw [List.reverse_cons, List.reverse_cons]; exact ints_append ih (.cons _ _ .nil)
/-- the frame of _divmod_pos within its loop -/
def mD (DQ : Addr) (b n r : Int) (tb tn tr : Tok) (mm : Str → Option Value) : Str → Option Value := fun y =>
  if y = Str.ofString "q_digits" then some (.ref DQ) else if y = Str.ofString "r" then some (.int r tr) else if y = Str.ofString "n" then some (.int n tn) else if y = Str.ofString "b" then some (.int b tb) else mm y
theorem mD_self {DQ : Addr} {b n r : Int} {tb tn tr : Tok} {m : Str → Option Value} (h1 : m (Str.ofString "q_digits") = some (.ref DQ)) (h2 : m (Str.ofString "r") = some (.int r tr)) (h3 : m (Str.ofString "n") = some (.int n tn)) (h4 : m (Str.ofString "b") = some (.int b tb)) : m = mD DQ b n r tb tn tr m := by
  funext y
  unfold mD
  split
  · rename_i h; rw [h]; exact h1
  · split
    · rename_i h; rw [h]; exact h2
    · split
      · rename_i h; rw [h]; exact h3
      · split
        · rename_i h; rw [h]; exact h4
        · rfl
def SameT (a b : Shared) : Prop := ∃ h t, b = { a with heap := h, toks := t }
theorem SameT.refl (s : Shared) : SameT s s := ⟨s.heap, s.toks, rfl⟩
theorem SameT.trans {a b c : Shared} (x : SameT a b) (y : SameT b c) : SameT a c := by
  obtain ⟨h1, t1, rfl⟩ := x
  obtain ⟨h2, t2, rfl⟩ := y
  exact ⟨h2, t2, rfl⟩
theorem SameT.mk' (s : Shared) (h : Heap) (tk : Nat) : SameT s { s with heap := h, toks := tk } := ⟨h, tk, rfl⟩
/-- the end of a turn of a for that makes no generator -/
def LTurnT (h₀ : Heap) (L : Addr) (R : Result → Shared → Prop) (I : Addr) (oI : Obj) (J : (Str → Option Value) → List (Addr × Obj) → Prop) (s₁ : Shared) (f : Flow) (s₂ : Shared) : Prop :=
  SameT s₁ s₂ ∧ match f with
    | .ret v => R (.ok (.ret v)) s₂
    | .brk => R (.ok .next) s₂
    | _ => ∃ m₂ news, Fr h₀ L s₂.heap m₂ ∧ News h₀ L s₂.heap ((I, oI) :: news) ∧ Ap I news ∧ J m₂ news
section
variable {prog : Program} {w : World} {A : Around} {s : Shared} {env : Env} {h₀ : Heap}
theorem for_walkT {R : Result → Shared → Prop} {E : Value → Shared → Prop} {I : Addr} {src : List (Addr × Obj)} {n : Nat} {P : Nat → Value → Prop} {St : Nat → Heap → Prop} {x : Str} {px : Pos} {body : List Stmt} {m : Str → Option Value} {news : List (Addr × Obj)}
    (W : Walks prog w A I (I :: src.map (·.1)) [I] n P St) (hlive : ∀ i h, St i h → ∃ o, h.get? I = some o) (J : Nat → (Str → Option Value) → List (Addr × Obj) → Prop) (hI0 : h₀.get? I = none ∧ I ≠ env.locals) (hsrcI : ∀ p ∈ src, p.1 ≠ I)
    (hsrc : ∀ j m₁ news, J j m₁ news → ∀ p ∈ src, p ∈ news)
    (hx : env.kindOf x = some .local) (hp : (env.scope.kind == .class || (env.scope.kind == .module && env.locals != env.globals)) = false) (hsrcL : ∀ p ∈ src, p.1 ≠ env.locals)
    (hst : St 0 s.heap) (F : Fr h₀ env.locals s.heap m) (N : News h₀ env.locals s.heap news) (apI : Ap I news) (J0 : J 0 m news)
    (hE : ∀ e s', E e s' → notedBy (model prog w) A env (fun e s' => R (.error e) s') e s')
    (turn : ∀ j v m₁ news s₁ oI, SameT s s₁ → j < n → P j v → J j m₁ news → Fr h₀ env.locals s₁.heap (fun y => if y = x then some v else m₁ y) → News h₀ env.locals s₁.heap ((I, oI) :: news) → Ap I news →
      wpAny (model prog w) A (execs body env) (LTurnT h₀ env.locals R I oI (J (j + 1)) s₁) E s₁)
    (done : ∀ s₁ m₁ news, SameT s s₁ → J n m₁ news → Fr h₀ env.locals s₁.heap m₁ → News h₀ env.locals s₁.heap news → R (.ok .next) s₁) :
    codeAny (model prog w) A (.forLoop (.Name x px) (.ref I) body [] env) R s := by
  refine codeAny_forLoop_any (fun k s₁ => ∃ j m₁ news, SameT s s₁ ∧ j ≤ n ∧ k = n + 1 - j ∧ St j s₁.heap ∧ Fr h₀ env.locals s₁.heap m₁ ∧ News h₀ env.locals s₁.heap news ∧ Ap I news ∧ J j m₁ news) ?_ (n + 1) ⟨0, m, news, SameT.refl s, Nat.zero_le _, rfl, hst, F, N, apI, J0⟩
  rintro k s₁ ⟨j, m₁, news, hsame, hj, rfl, hst, F, N, apI, hJ⟩
  by_cases hlt : j < n
  · refine W.item j s₁ _ _ hlt hst fun v h1 tk1 hv hst1 hk1 => ?_
    have hk1' : ∀ b o, b ≠ I → s₁.heap.get? b = some o → h1.get? b = some o := fun b o hb e => hk1 b o (by simpa using hb) e
    refine wpAny_of_eq (rfl : letOwnedTupleGo (.Name x px) (.ref I) v = pure ()) ?_
    have F1 : Fr h₀ env.locals h1 m₁ := fr_one F (Ne.symm hI0.2) hI0.1 hk1'
    have N1 : News h₀ env.locals h1 news := news_one N apI hk1'
    refine wpAny_assign_Name (wpAny_storeName_local hx F1.ns (fun h2 hn2 hs2 => ?_) hp)
    replace hs2 : Heap.SameBut env.locals h1 h2 := hs2
    have F2 : Fr h₀ env.locals h2 (fun y => if y = x then some v else m₁ y) := F1.set hn2 hs2
    obtain ⟨oI, hoI⟩ := hlive _ _ hst1
    have hoI2 : h2.get? I = some oI := hs2.extBut I oI hI0.2 hoI
    have N2 : News h₀ env.locals h2 ((I, oI) :: news) := List.forall_mem_cons.mpr ⟨⟨hoI2, hI0.2, hI0.1⟩, fun q hq => ⟨hs2.extBut _ _ (N1 q hq).2.1 (N1 q hq).1, (N1 q hq).2⟩⟩
    have hst2 : St (j + 1) h2 := W.frame _ _ _ hst1 fun b hb o e => hs2.extBut b o (by
      rcases List.mem_cons.mp hb with rfl | hb
      · exact hI0.2
      · obtain ⟨p, hp', rfl⟩ := List.mem_map.mp hb
        exact hsrcL p hp') e
    refine wpAny_mono (turn j v m₁ news { s₁ with heap := h2, toks := _ } oI (hsame.trans (SameT.mk' _ _ _)) hlt hv hJ F2 N2 apI) (fun f s₂ hf => ?_) hE
    obtain ⟨hs12, hf⟩ := hf
    have next : (∃ m₂ news, Fr h₀ env.locals s₂.heap m₂ ∧ News h₀ env.locals s₂.heap ((I, oI) :: news) ∧ Ap I news ∧ J (j + 1) m₂ news) → ∃ k', k' < n + 1 - j ∧ ∃ j m₁ news, SameT s s₂ ∧ j ≤ n ∧ k' = n + 1 - j ∧ St j s₂.heap ∧ Fr h₀ env.locals s₂.heap m₁ ∧ News h₀ env.locals s₂.heap news ∧ Ap I news ∧ J j m₁ news := by
      rintro ⟨m₂, news2, F3, N3, ap3, hJ3⟩
      refine ⟨n + 1 - (j + 1), by omega, j + 1, m₂, news2, (hsame.trans (SameT.mk' _ _ _)).trans hs12, hlt, rfl, W.frame _ _ _ hst2 fun b hb o e => ?_, F3, fun q hq => N3 q (.tail _ hq), ap3, hJ3⟩
      rcases List.mem_cons.mp hb with rfl | hb
      · rw [show h2.get? b = some oI from hoI2] at e
        rw [← e]; exact (N3 _ (.head _)).1
      · obtain ⟨p, hp', rfl⟩ := List.mem_map.mp hb
        have e2 := (N2 p (.tail _ (hsrc _ _ _ hJ p hp'))).1
        rw [show h2.get? p.1 = some p.2 from e2] at e
        rw [← e]; exact (N3 p (.tail _ (hsrc _ _ _ hJ3 p hp'))).1
    cases f with
    | ret v => exact hf
    | brk => exact hf
    | next => exact next hf
    | cont => exact next hf
  · have hje : j = n := by omega
    subst hje
    refine W.done s₁ _ _ hst fun h1 tk1 hk1 => wpAny_execs_nil ?_
    have hk1' : ∀ b o, b ≠ I → s₁.heap.get? b = some o → h1.get? b = some o := fun b o hb e => hk1 b o (by simpa using hb) e
    exact done _ m₁ news (hsame.trans (SameT.mk' _ _ _)) hJ (fr_one F (Ne.symm hI0.2) hI0.1 hk1') (news_one N apI hk1')
/-- a for over a list of the ledger from its end -/
theorem for_rev {R : Result → Shared → Prop} {E : Value → Shared → Prop} {ax I : Addr} {lo : Obj} {vs : List Value} {nn : Nat} {x : Str} {px : Pos} {body : List Stmt} {m : Str → Option Value} {news : List (Addr × Obj)}
    (J : Nat → (Str → Option Value) → List (Addr × Obj) → Prop) (hlo : lo = listOf vs.toArray nn) (hh : A.handled = none) (hm : (ax, lo) ∈ news) (hsrc : ∀ j m₁ news, J j m₁ news → (ax, lo) ∈ news)
    (hx : env.kindOf x = some .local) (hp : (env.scope.kind == .class || (env.scope.kind == .module && env.locals != env.globals)) = false)
    (F : Fr h₀ env.locals s.heap m) (N : News h₀ env.locals s.heap ((I, revObj ax ((vs.length : Int) - 1)) :: news)) (apI : Ap I news) (J0 : J 0 m news)
    (hE : ∀ e s', E e s' → notedBy (model prog w) A env (fun e s' => R (.error e) s') e s')
    (turn : ∀ j v m₁ news s₁ oI, SameT s s₁ → vs.reverse[j]? = some v → J j m₁ news → Fr h₀ env.locals s₁.heap (fun y => if y = x then some v else m₁ y) → News h₀ env.locals s₁.heap ((I, oI) :: news) → Ap I news →
      wpAny (model prog w) A (execs body env) (LTurnT h₀ env.locals R I oI (J (j + 1)) s₁) E s₁)
    (done : ∀ s₁ m₁ news, SameT s s₁ → J vs.length m₁ news → Fr h₀ env.locals s₁.heap m₁ → News h₀ env.locals s₁.heap news → R (.ok .next) s₁) :
    wpAny (model prog w) A (pyIter (.ref I)) (fun it s₂ => codeAny (model prog w) A (.forLoop (.Name x px) it body [] env) R s₂) E s := by
  have hI := N _ (.head _)
  have hax := N _ (.tail _ hm)
  have hl : s.heap.IsList ax vs.toArray := ⟨lo, hax.1, by rw [hlo], nn, by rw [hlo]⟩
  have hne : ax ≠ I := apI _ hm
  have hit : s.heap.IsRevIter I ax ((vs.length : Int) - 1) := ⟨_, hI.1, rfl, rfl⟩
  refine wpAny_pyIter_revIter hit ?_
  have W := Walks.listRev (prog := prog) (w := w) hh I ax hne vs.toArray
  have hlen : vs.toArray.size = vs.length := by simp
  rw [hlen] at W
  refine for_walkT (src := [(ax, lo)]) W (fun i h st => by obtain ⟨_, ⟨o, ho, _⟩, _⟩ := st; exact ⟨o, ho⟩) J ⟨hI.2.2, hI.2.1⟩ (fun p hp => by rw [List.mem_singleton.mp hp]; exact hne)
    (fun j m₁ news hJ p hp => by rw [List.mem_singleton.mp hp]; exact hsrc _ _ _ hJ) hx hp (fun p hp => by rw [List.mem_singleton.mp hp]; exact hax.2.1) ⟨Nat.zero_le _, by rw [Int.natCast_zero, Int.sub_zero]; exact hit, hl⟩ F (fun q hq => N q (.tail _ hq)) apI J0 hE (fun j v m₁ news s₁ oI h1 h2 h3 => turn j v m₁ news s₁ oI h1 ?_) done
  rw [List.getElem?_reverse h2]
  simpa using h3
end
/-- a list of the ledger, turned about -/
theorem reverse_head {prog : Program} {w : World} {A : Around} {E : Value → Shared → Prop} {s : Shared} {h₀ : Heap} {L D : Addr} {m : Str → Option Value} {rest : List (Addr × Obj)} {vs : List Value} {n : Nat} {Q : Value → Shared → Prop}
    (F : Fr h₀ L s.heap m) (N : News h₀ L s.heap ((D, listOf vs.toArray n) :: rest)) (hap : ∀ p ∈ rest, p.1 ≠ D) (hz : vs.length ≤ sizeLine)
    (h : ∀ h', Fr h₀ L h' m → News h₀ L h' ((D, listOf vs.reverse.toArray n) :: rest) → Q .none { s with heap := h' }) : wpAny (model prog w) A (call (.builtin "list.reverse") [.ref D]) Q E s :=
  kl_reverse (l := vs.reverse) F N (by rw [List.toList_toArray]) (Upd.head hap) (by rw [List.toList_toArray]; exact hz) h
theorem news_sw {h₀ h : Heap} {L : Addr} {t a c : Addr × Obj} {R : List (Addr × Obj)} (N : News h₀ L h (t :: a :: c :: R)) : News h₀ L h (c :: a :: R) :=
  List.forall_mem_cons.mpr ⟨N _ (.tail _ (.tail _ (.head _))), List.forall_mem_cons.mpr ⟨N _ (.tail _ (.head _)), fun p hp => N p (.tail _ (.tail _ (.tail _ hp)))⟩⟩
theorem news_sw2 {h₀ h : Heap} {L : Addr} {a c : Addr × Obj} {R : List (Addr × Obj)} (N : News h₀ L h (a :: c :: R)) : News h₀ L h (c :: a :: R) :=
  List.forall_mem_cons.mpr ⟨N _ (.tail _ (.head _)), List.forall_mem_cons.mpr ⟨N _ (.head _), fun p hp => N p (.tail _ (.tail _ hp))⟩⟩
theorem reordR {h₀ h : Heap} {L : Addr} {q al x y z u v : Addr × Obj} (N : News h₀ L h [q, al, x, y, z, u, v]) : News h₀ L h (z :: u :: q :: [x, y, v]) :=
  List.forall_mem_cons.mpr ⟨N _ (.tail _ (.tail _ (.tail _ (.tail _ (.head _))))), List.forall_mem_cons.mpr ⟨N _ (.tail _ (.tail _ (.tail _ (.tail _ (.tail _ (.head _)))))), List.forall_mem_cons.mpr ⟨N _ (.head _), List.forall_mem_cons.mpr ⟨N _ (.tail _ (.tail _ (.head _))), List.forall_mem_cons.mpr ⟨N _ (.tail _ (.tail _ (.tail _ (.head _)))), List.forall_mem_cons.mpr ⟨N _ (.tail _ (.tail _ (.tail _ (.tail _ (.tail _ (.tail _ (.head _))))))), List.forall_mem_nil _⟩⟩⟩⟩⟩⟩
end Mine
end
section
open PySem PySem.W PySem.Spec PySem.Calls PyProof.Rows
open Sem (wp)
set_option Elab.async false
set_option maxRecDepth 100000
namespace Mine
open LCg (lst NsObj ns_obj)
/-- the end of an element's making -/
def CTurn (h₀ : Heap) (L : Addr) (m : Str → Option Value) (I C D : Addr) (oI oC : Obj) (ys : List Value) (J : List (Addr × Obj) → Value → Prop) (s₁ : Shared) (v : Value) (s₂ : Shared) : Prop :=
  SameG s₁ s₂ ∧ ∃ made, Fr h₀ L s₂.heap m ∧ News h₀ L s₂.heap ((C, oC) :: (D, lst ys) :: (I, oI) :: made) ∧ Ap I made ∧ Ap C made ∧ Ap D made ∧ J made v
section
variable {prog : Program} {w : World} {A : Around} {s : Shared} {env : Env} {elt iter : PySem.Expr} {x : Str} {px : Pos} {scope : Scope} {pos : Pos} {cl : List (Str × Addr)}
  {h₀ : Heap} {L : Addr} {m : Str → Option Value} {n : Nat} {E : Value → Shared → Prop} {Q : Value → Shared → Prop}
theorem comp_walkR {RR : Value → Addr → Result → Shared → Prop} {I : Addr} {src : List (Addr × Obj)} {P : Nat → Value → Prop} {St : Nat → Heap → Prop} {news : List (Addr × Obj)}
    (W : Walks prog w A I (I :: src.map (·.1)) [I] n P St) (hlive : ∀ i h, St i h → ∃ o, h.get? I = some o) (J : Nat → List Value → List (Addr × Obj) → Prop) (hbd : ∀ i ys made, J i ys made → ys.length ≤ sizeLine)
    (hI0 : h₀.get? I = none ∧ I ≠ L) (hsrcI : ∀ p ∈ src, p.1 ≠ I) (hsrc : ∀ j ys made, J j ys made → ∀ p ∈ src, p ∈ made)
    (hcell : ∀ y ∈ scope.names, y.2 ≠ .cell) (hx : scope.names.lookup x = some .local) (hkind : scope.kind = .function)
    (hst : St 0 s.heap) (F : Fr h₀ L s.heap m) (N : News h₀ L s.heap news) (apI : Ap I news) (hJ : J 0 [] news)
    (turn : ∀ C D i v ys made s₁ oI oC m₂, D < C → I < D → (∀ p ∈ news, @LT.lt Nat _ p.1 D) → SameG s s₁ → i < n → P i v → J i ys made → NsObj oC m₂ → m₂ x = some v → Fr h₀ L s₁.heap m → News h₀ L s₁.heap ((C, oC) :: (D, lst ys) :: (I, oI) :: made) → Ap I made → Ap C made → Ap D made →
      wpAny (model prog w) A (eval elt (compEnvC scope cl C env)) (CTurn h₀ L m I C D oI oC ys (fun made v => J (i + 1) (ys ++ [v]) made) s₁) (fun _ _ => False) s₁)
    (done : ∀ C D oC ys made s₁ m₂, D < C → SameG s s₁ → (∀ p ∈ news, @LT.lt Nat _ p.1 D) → NsObj oC m₂ → Fr h₀ L s₁.heap m → News h₀ L s₁.heap ((C, oC) :: (D, lst ys) :: made) → Ap C made → Ap D made → J n ys made → RR (.ref D) C (.ok .next) s₁) :
    wpAny (model prog w) A (newList []) (fun acc s₃ => wpAny (model prog w) A (newFunctionEnv scope env.globals cl [] env.qual none .none (some env)) (fun cenv s₄ =>
      codeAny (model prog w) A (.compStart (.ListComp elt [⟨.Name x px, iter, [], 0⟩] scope pos) 0 (.ref I) acc { cenv with scope := relabel scope env }) (RR acc cenv.locals) s₄) E s₃) E s := by
  refine wpAny_newObj_type (wpAny_newFunctionEnv hcell (by intro y hy; simp at hy) (fun h₁ hns₁ hsb₁ => ?_) hkind)
  dsimp only at hns₁ hsb₁ ⊢
  generalize hH2 : s.heap.push { cls := .type "list", dict := none, data := .seq ([] : List Value).toArray } = H2 at hns₁ hsb₁ ⊢
  have hC : H2.objs.size = s.heap.objs.size + 1 := by rw [← hH2, Heap.size_push]
  have hDC : s.heap.objs.size < H2.objs.size := by rw [hC]; exact Nat.lt_succ_self _
  obtain ⟨oI0, hoI0⟩ := hlive _ _ hst
  have hIlt : I < s.heap.objs.size := Heap.lt_size hoI0
  have old : ∀ b o, s.heap.get? b = some o → h₁.get? b = some o := fun b o e => hsb₁.extBut b o (Nat.ne_of_lt (Nat.lt_trans (Heap.lt_size e) hDC)) (Heap.get?_push_of_some _ (hH2 ▸ Heap.get?_push_of_some _ e))
  have hacc : h₁.get? s.heap.objs.size = some (lst []) := hsb₁.extBut _ _ (Nat.ne_of_lt hDC) (Heap.get?_push_of_some _ (hH2 ▸ Heap.get?_push_size _ rfl))
  have hLs : L < s.heap.objs.size := F.ns.lt
  have hab := F.above
  have fresh : ∀ a, s.heap.objs.size ≤ a → h₀.get? a = none ∧ a ≠ L := fun a ha => ⟨Heap.get?_none_of_le (Nat.le_trans hab (Nat.le_trans (Nat.le_of_lt hLs) ha)), Nat.ne_of_gt (Nat.lt_of_lt_of_le hLs ha)⟩
  have hnl : ∀ p ∈ news, @LT.lt Nat _ p.1 s.heap.objs.size := fun p hp => Heap.lt_size (N p hp).1
  obtain ⟨oC, heC, hNs⟩ := ns_obj hns₁
  have N1 : News h₀ L h₁ ((H2.objs.size, oC) :: (s.heap.objs.size, lst []) :: news) := by
    refine List.forall_mem_cons.mpr ⟨⟨heC, (fresh _ (Nat.le_of_lt hDC)).2, (fresh _ (Nat.le_of_lt hDC)).1⟩, List.forall_mem_cons.mpr ⟨⟨hacc, (fresh _ (Nat.le_refl _)).2, (fresh _ (Nat.le_refl _)).1⟩, fun p hp => ⟨old _ _ (N p hp).1, (N p hp).2⟩⟩⟩
  have hst₁ : St 0 h₁ := W.frame _ _ _ hst fun b _ o e => old b o e
  have hC0 := fresh _ (Nat.le_of_lt hDC)
  have hD0 := fresh _ (Nat.le_refl _)
  have d1 : H2.objs.size ≠ s.heap.objs.size := Nat.ne_of_gt hDC
  have d2 : I ≠ H2.objs.size := Nat.ne_of_lt (Nat.lt_trans hIlt hDC)
  have d3 : I ≠ s.heap.objs.size := Nat.ne_of_lt hIlt
  have loop : codeAny (model prog w) A (.compLoop (.ListComp elt [⟨.Name x px, iter, [], 0⟩] scope pos) 0 (.ref I) (.ref s.heap.objs.size) (compEnvC scope cl H2.objs.size env)) (RR (.ref s.heap.objs.size) H2.objs.size) { s with heap := h₁, toks := s.toks + ([] : List (Str × Value)).length } := by
    refine codeAny_compLoop_list (fun k s₁ => ∃ i ys made oC m₂, SameG s s₁ ∧ i ≤ n ∧ k = n + 1 - i ∧ St i s₁.heap ∧ NsObj oC m₂ ∧ Fr h₀ L s₁.heap m ∧ News h₀ L s₁.heap ((H2.objs.size, oC) :: (s.heap.objs.size, lst ys) :: made) ∧ Ap I made ∧ Ap H2.objs.size made ∧ Ap s.heap.objs.size made ∧ J i ys made) ?_ (n + 1)
      ⟨0, [], news, oC, _, SameG.mk' _ _ _, Nat.zero_le _, rfl, hst₁, hNs, F.keeps old, N1, apI, fun p hp => Nat.ne_of_lt (Nat.lt_trans (hnl p hp) hDC), fun p hp => Nat.ne_of_lt (hnl p hp), hJ⟩
    rintro k s₁ ⟨i, ys, made, oC, m₂, hsame, hi, rfl, hst, hNs, F, N, apI, apC, apD, hJ⟩
    have apI' : Ap I ((H2.objs.size, oC) :: (s.heap.objs.size, lst ys) :: made) := List.forall_mem_cons.mpr ⟨Ne.symm d2, List.forall_mem_cons.mpr ⟨Ne.symm d3, apI⟩⟩
    refine never ?_
    by_cases hlt : i < n
    · refine W.item i s₁ _ _ hlt hst fun v h1 tk1 hv hst1 hk1 => ?_
      have hk1' : ∀ b o, b ≠ I → s₁.heap.get? b = some o → h1.get? b = some o := fun b o hb e => hk1 b o (by simpa using hb) e
      have F1 : Fr h₀ L h1 m := fr_one F (Ne.symm hI0.2) hI0.1 hk1'
      have N1 : News h₀ L h1 _ := news_one N apI' hk1'
      have hC1 : h1.Ns H2.objs.size m₂ := hNs.ns (N1 _ (.head _)).1
      refine never (wpAny_assign_Name (wpAny_storeName_local (env := compEnvC scope cl H2.objs.size env) (lookup_relabel_local hx) hC1 (fun h2 hn2 hs2 => ?_) (by simp [compEnvC, relabel, hkind])))
      replace hs2 : Heap.SameBut H2.objs.size h1 h2 := hs2
      replace hn2 : h2.Ns H2.objs.size (fun y => if y = x then some v else m₂ y) := hn2
      obtain ⟨oC2, heC2, hNs2⟩ := ns_obj hn2
      have hk2 : ∀ b o, b ≠ H2.objs.size → h1.get? b = some o → h2.get? b = some o := fun b o hb e => hs2.extBut b o hb e
      have F2 : Fr h₀ L h2 m := fr_one F1 (Ne.symm hC0.2) hC0.1 hk2
      obtain ⟨oI, hoI⟩ := hlive _ _ hst1
      have N2 : News h₀ L h2 ((H2.objs.size, oC2) :: (s.heap.objs.size, lst ys) :: (I, oI) :: made) := by
        refine List.forall_mem_cons.mpr ⟨⟨heC2, hC0.2, hC0.1⟩, List.forall_mem_cons.mpr ⟨?_, List.forall_mem_cons.mpr ⟨⟨hk2 _ _ d2 hoI, hI0.2, hI0.1⟩, ?_⟩⟩⟩
        · exact ⟨hk2 _ _ (Ne.symm d1) (N1 _ (.tail _ (.head _))).1, (N1 _ (.tail _ (.head _))).2⟩
        · exact fun p hp => ⟨hk2 _ _ (apC p hp) (N1 _ (.tail _ (.tail _ hp))).1, (N1 _ (.tail _ (.tail _ hp))).2⟩
      have hst2 : St (i + 1) h2 := W.frame _ _ _ hst1 fun b hb o e => hk2 b o (by
        rcases List.mem_cons.mp hb with rfl | hb
        · exact d2
        · obtain ⟨p, hp', rfl⟩ := List.mem_map.mp hb
          exact apC p (hsrc _ _ _ hJ p hp')) e
      refine never (wpAny_mono (turn _ _ i v ys made { s₁ with heap := h2, toks := _ } oI oC2 _ hDC hIlt hnl (hsame.trans (SameG.mk' _ _ _)) hlt hv hJ hNs2 (by show (if _ then _ else _) = _; rw [if_pos rfl]) F2 N2 apI apC apD) (fun y s₃ hy => never ?_) fun _ _ x => x)
      obtain ⟨hs13, made3, F3, N3, ap1, ap2, ap3, hJ3⟩ := hy
      have zD := (N3 _ (.tail _ (.head _))).1
      refine append_at (hsz := by show ys.toArray.size ≤ sizeLine; rw [List.size_toArray]; exact hbd _ _ _ hJ) zD fun h4 hs4 hD4 => ?_
      replace hs4 : Heap.SameBut s.heap.objs.size s₃.heap h4 := hs4
      have hk4 : ∀ b o, b ≠ s.heap.objs.size → s₃.heap.get? b = some o → h4.get? b = some o := fun b o hb e => hs4.extBut b o hb e
      have N4 : News h₀ L h4 ((H2.objs.size, oC2) :: (s.heap.objs.size, lst (ys ++ [y])) :: made3) := by
        refine List.forall_mem_cons.mpr ⟨?_, List.forall_mem_cons.mpr ⟨⟨hD4.trans (congrArg some (LCg.lst_snoc ys y)), hD0.2, hD0.1⟩, ?_⟩⟩
        · exact ⟨hk4 _ _ d1 (N3 _ (.head _)).1, (N3 _ (.head _)).2⟩
        · exact fun p hp => ⟨hk4 _ _ (ap3 p hp) (N3 _ (.tail _ (.tail _ (.tail _ hp)))).1, (N3 _ (.tail _ (.tail _ (.tail _ hp)))).2⟩
      refine ⟨n + 1 - (i + 1), by omega, i + 1, ys ++ [y], made3, oC2, _, ((hsame.trans (SameG.mk' _ _ _)).trans hs13).trans ⟨h4, s₃.toks, s₃.gens, rfl, id⟩, hlt, rfl, W.frame _ _ _ hst2 fun b hb o e => ?_, hNs2, fr_one F3 (Ne.symm hD0.2) hD0.1 hk4, N4, ap1, ap2, ap3, hJ3⟩
      rcases List.mem_cons.mp hb with rfl | hb
      · rw [hk2 _ _ d2 hoI] at e
        rw [← e]; exact hk4 _ _ d3 (N3 _ (.tail _ (.tail _ (.head _)))).1
      · obtain ⟨p, hp', rfl⟩ := List.mem_map.mp hb
        have e2 := (N2 p (.tail _ (.tail _ (.tail _ (hsrc _ _ _ hJ p hp'))))).1
        rw [e2] at e
        rw [← e]; exact hk4 _ _ (ap3 p (hsrc _ _ _ hJ3 p hp')) (N3 p (.tail _ (.tail _ (.tail _ (hsrc _ _ _ hJ3 p hp'))))).1
    · have hje : i = n := by omega
      subst hje
      refine W.done s₁ _ _ hst fun h1 tk1 hk1 => ?_
      have hk1' : ∀ b o, b ≠ I → s₁.heap.get? b = some o → h1.get? b = some o := fun b o hb e => hk1 b o (by simpa using hb) e
      have N1 : News h₀ L h1 _ := news_one N apI' hk1'
      have F1 : Fr h₀ L h1 m := fr_one F (Ne.symm hI0.2) hI0.1 hk1'
      exact done _ _ oC ys made _ m₂ hDC (hsame.trans (SameG.mk' _ _ _)) hnl hNs F1 N1 apC apD hJ
  exact codeAny_compStart_list loop (W.self 0 _ _ _ hst₁ loop)
theorem comp_end {C D : Addr} {oC : Obj} {ys : List Value} {made : List (Addr × Obj)} {s₁ : Shared} {h' : Heap} (hDC : D < C) (F : Fr h₀ L s₁.heap m) (N : News h₀ L s₁.heap ((C, oC) :: (D, lst ys) :: made)) (apC : Ap C made) (hs' : Heap.SameBut C s₁.heap h') :
    Fr h₀ L h' m ∧ News h₀ L h' ((D, lst ys) :: made) := by
  have hC := (N _ (.head _)).2
  have hk' : ∀ b o, b ≠ C → s₁.heap.get? b = some o → h'.get? b = some o := fun b o hb e => hs'.extBut b o hb e
  refine ⟨fr_one F (Ne.symm hC.1) hC.2 hk', ?_⟩
  exact List.forall_mem_cons.mpr ⟨⟨hk' _ _ (Nat.ne_of_lt hDC) (N _ (.tail _ (.head _))).1, (N _ (.tail _ (.head _))).2⟩, fun p hp => ⟨hk' _ _ (apC p hp) (N _ (.tail _ (.tail _ hp))).1, (N _ (.tail _ (.tail _ hp))).2⟩⟩
theorem comp_post {C D : Addr} {oC : Obj} {ys : List Value} {made : List (Addr × Obj)} {s₁ : Shared} {m₂ : Str → Option Value} (hDC : D < C) (hNs : NsObj oC m₂) (F : Fr h₀ L s₁.heap m) (N : News h₀ L s₁.heap ((C, oC) :: (D, lst ys) :: made)) (apC : Ap C made)
    (h : ∀ h', Fr h₀ L h' m → News h₀ L h' ((D, lst ys) :: made) → Q (.ref D) { s₁ with heap := h' }) : compPost (model prog w) A E none Q (.ref D) C (.ok .next) s₁ := by
  refine ⟨m₂, hNs.ns (N _ (.head _)).1, fun h' hs' => ?_⟩
  obtain ⟨a, b⟩ := comp_end hDC F N apC hs'
  exact h h' a b
/-- the comprehension's list is bound to a local name -/
theorem comp_postA {y : Str} {py : Pos} {C D : Addr} {oC : Obj} {ys : List Value} {made : List (Addr × Obj)} {s₁ : Shared} {m₂ : Str → Option Value} (hL : env.locals = L) (hy : env.kindOf y = some .local) (hp : (env.scope.kind == .class || (env.scope.kind == .module && env.locals != env.globals)) = false) (hDC : D < C) (hNs : NsObj oC m₂) (F : Fr h₀ L s₁.heap m) (N : News h₀ L s₁.heap ((C, oC) :: (D, lst ys) :: made)) (apC : Ap C made)
    (h : ∀ h' tk, Fr h₀ L h' (fun z => if z = y then some (.ref D) else m z) → News h₀ L h' ((D, lst ys) :: made) → Q .none { s₁ with heap := h', toks := tk }) : compPost (model prog w) A E (some (assign (.Name y py) env)) Q (.ref D) C (.ok .next) s₁ := by
  subst hL
  show wpAny _ A (assign (.Name y py) env (.ref D)) _ _ _
  refine wpAny_assign_Name (wpAny_storeName_local hy F.ns (fun h2 hn2 hs2 => ?_) hp)
  replace hs2 : Heap.SameBut env.locals s₁.heap h2 := hs2
  have F2 : Fr h₀ env.locals h2 (fun z => if z = y then some (.ref D) else m z) := F.set hn2 hs2
  have N2 : News h₀ env.locals h2 ((C, oC) :: (D, lst ys) :: made) := fun p hp => ⟨hs2.extBut _ _ (N p hp).2.1 (N p hp).1, (N p hp).2⟩
  refine ⟨m₂, hNs.ns (N2 _ (.head _)).1, fun h' hs' => ?_⟩
  obtain ⟨a, b⟩ := comp_end (s₁ := { s₁ with heap := h2, toks := s₁.toks + 1 }) hDC F2 N2 apC hs'
  exact h h' _ a b
end
end Mine
end
section
open PySem PySem.W PySem.Spec PySem.Calls PyProof.Rows
open Sem (wp)
set_option Elab.async false
set_option maxRecDepth 100000
namespace Mine
open LCg (lst NsObj ns_obj)
section
variable {prog : Program} {w : World} {A : Around} {s : Shared} {env : Env} {elt iter : PySem.Expr} {x : Str} {px : Pos} {scope : Scope} {pos : Pos} {cl : List (Str × Addr)}
  {h₀ : Heap} {L : Addr} {m : Str → Option Value} {n : Nat} {E : Value → Shared → Prop} {Q : Value → Shared → Prop}
theorem comp_listR {RR : Value → Addr → Result → Shared → Prop} {ax : Addr} {lo : Obj} {vs : List Value} {nn : Nat} {news : List (Addr × Obj)} (J : Nat → List Value → List (Addr × Obj) → Prop) (hlo : lo = listOf vs.toArray nn) (hh : A.handled = none) (hm : (ax, lo) ∈ news)
    (hbd : ∀ i ys made, J i ys made → ys.length ≤ sizeLine) (hsrc : ∀ j ys made, J j ys made → (ax, lo) ∈ made)
    (hcell : ∀ y ∈ scope.names, y.2 ≠ .cell) (hx : scope.names.lookup x = some .local) (hkind : scope.kind = .function)
    (F : Fr h₀ L s.heap m) (N : News h₀ L s.heap news) (hJ : J 0 [] news)
    (turn : ∀ I C D i v ys made s₁ oI oC m₂, D < C → I < D → (∀ p ∈ news, @LT.lt Nat _ p.1 I) → SameG s s₁ → vs[i]? = some v → J i ys made → NsObj oC m₂ → m₂ x = some v → Fr h₀ L s₁.heap m → News h₀ L s₁.heap ((C, oC) :: (D, lst ys) :: (I, oI) :: made) → Ap I made → Ap C made → Ap D made →
      wpAny (model prog w) A (eval elt (compEnvC scope cl C env)) (CTurn h₀ L m I C D oI oC ys (fun made v => J (i + 1) (ys ++ [v]) made) s₁) (fun _ _ => False) s₁)
    (done : ∀ C D oC ys made s₁ m₂, D < C → SameG s s₁ → (∀ p ∈ news, @LT.lt Nat _ p.1 D) → NsObj oC m₂ → Fr h₀ L s₁.heap m → News h₀ L s₁.heap ((C, oC) :: (D, lst ys) :: made) → Ap C made → Ap D made → J vs.length ys made → RR (.ref D) C (.ok .next) s₁) :
    wpAny (model prog w) A (pyIter (.ref ax)) (fun it s => wpAny (model prog w) A (newList []) (fun acc s₃ => wpAny (model prog w) A (newFunctionEnv scope env.globals cl [] env.qual none .none (some env)) (fun cenv s₄ =>
      codeAny (model prog w) A (.compStart (.ListComp elt [⟨.Name x px, iter, [], 0⟩] scope pos) 0 it acc { cenv with scope := relabel scope env }) (RR acc cenv.locals) s₄) E s₃) E s) E s := by
  have hax := N _ hm
  have hl : s.heap.IsList ax vs.toArray := ⟨lo, hax.1, by rw [hlo], nn, by rw [hlo]⟩
  have hlt : ax < s.heap.objs.size := Heap.lt_size hax.1
  have hne : ax ≠ s.heap.objs.size := Nat.ne_of_lt hlt
  refine wpAny_pyIter_list hl ?_
  have W := Walks.list (prog := prog) (w := w) hh s.heap.objs.size ax hne vs.toArray
  have hlen : vs.toArray.size = vs.length := by simp
  rw [hlen] at W
  have hL : L < s.heap.objs.size := F.ns.lt
  have hsz : (s.heap.push { cls := .type "list_iterator", data := .fields #[.ref ax, .int 0 0] }).objs.size = s.heap.objs.size + 1 := Heap.size_push ..
  refine comp_walkR (src := [(ax, lo)]) W (fun i h st => by obtain ⟨⟨o, ho, _⟩, _⟩ := st; exact ⟨o, ho⟩) J hbd ⟨Heap.get?_none_of_le (Nat.le_trans F.above (Nat.le_of_lt hL)), Nat.ne_of_gt hL⟩ (fun p hp => by rw [List.mem_singleton.mp hp]; exact hne)
    (fun j ys made hJ p hp => by rw [List.mem_singleton.mp hp]; exact hsrc _ _ _ hJ) hcell hx hkind ⟨⟨_, Heap.get?_push_size _ rfl, rfl, rfl⟩, hl.at fun o e => Heap.get?_push_of_some _ e⟩ (F.push _)
    (fun p hp => ⟨Heap.get?_push_of_some _ (N p hp).1, (N p hp).2⟩) (fun p hp => Nat.ne_of_lt (Heap.lt_size (N p hp).1)) hJ
    (fun C D i v ys made s₁ oI oC m₂ a1 a2 a3 a4 a5 a6 a7 => turn _ C D i v ys made s₁ oI oC m₂ a1 a2 (fun p hp => Heap.lt_size (N p hp).1) ((SameG.mkg s _ _ _ id).trans a4) (by simpa using a6) a7)
    (fun C D oC ys made s₁ m₂ a0 a1 => done C D oC ys made s₁ m₂ a0 ((SameG.mkg s _ _ _ id).trans a1))
theorem comp_rangeR {RR : Value → Addr → Result → Shared → Prop} {r : Addr} {a b : Int} {t1 t2 t3 : Tok} {news : List (Addr × Obj)} (J : Nat → List Value → List (Addr × Obj) → Prop) (hh : A.handled = none) (hr : IsRange s.heap r a b 1 t1 t2 t3) (hsmall : Builtin.Range.small a b 1 = true) (hn : Builtin.Range.rangeSize a b 1 = (n : Int))
    (hbd : ∀ i ys made, J i ys made → ys.length ≤ sizeLine)
    (hcell : ∀ y ∈ scope.names, y.2 ≠ .cell) (hx : scope.names.lookup x = some .local) (hkind : scope.kind = .function)
    (F : Fr h₀ L s.heap m) (N : News h₀ L s.heap news) (hJ : J 0 [] news)
    (turn : ∀ I C D i t ys made s₁ oI oC m₂, D < C → I < D → (∀ p ∈ news, @LT.lt Nat _ p.1 I) → SameG s s₁ → i < n → J i ys made → NsObj oC m₂ → m₂ x = some (.int (a + (i : Int)) t) → Fr h₀ L s₁.heap m → News h₀ L s₁.heap ((C, oC) :: (D, lst ys) :: (I, oI) :: made) → Ap I made → Ap C made → Ap D made →
      wpAny (model prog w) A (eval elt (compEnvC scope cl C env)) (CTurn h₀ L m I C D oI oC ys (fun made v => J (i + 1) (ys ++ [v]) made) s₁) (fun _ _ => False) s₁)
    (done : ∀ C D oC ys made s₁ m₂, D < C → SameG s s₁ → (∀ p ∈ news, @LT.lt Nat _ p.1 D) → NsObj oC m₂ → Fr h₀ L s₁.heap m → News h₀ L s₁.heap ((C, oC) :: (D, lst ys) :: made) → Ap C made → Ap D made → J n ys made → RR (.ref D) C (.ok .next) s₁) :
    wpAny (model prog w) A (pyIter (.ref r)) (fun it s => wpAny (model prog w) A (newList []) (fun acc s₃ => wpAny (model prog w) A (newFunctionEnv scope env.globals cl [] env.qual none .none (some env)) (fun cenv s₄ =>
      codeAny (model prog w) A (.compStart (.ListComp elt [⟨.Name x px, iter, [], 0⟩] scope pos) 0 it acc { cenv with scope := relabel scope env }) (RR acc cenv.locals) s₄) E s₃) E s) E s := by
  refine wpAny_pyIter_range hr hsmall ?_
  have W := Walks.range (prog := prog) (w := w) hh s.heap.objs.size a 1 n
  have hL : L < s.heap.objs.size := F.ns.lt
  rw [hn]
  refine comp_walkR (src := []) W (fun i h st => ⟨_, st⟩) J hbd ⟨Heap.get?_none_of_le (Nat.le_trans F.above (Nat.le_of_lt hL)), Nat.ne_of_gt hL⟩ (fun p hp => nomatch hp)
    (fun j ys made hJ p hp => nomatch hp) hcell hx hkind (by show IsRangeIter _ _ _ _ _; simpa using Heap.get?_push_size _ rfl) (F.push _)
    (fun p hp => ⟨Heap.get?_push_of_some _ (N p hp).1, (N p hp).2⟩) (fun p hp => Nat.ne_of_lt (Heap.lt_size (N p hp).1)) hJ
    (fun C D i v ys made s₁ oI oC m₂ a1 a2 a3 a4 a5 a6 a7 a8 a9 => ?_)
    (fun C D oC ys made s₁ m₂ a0 a1 => done C D oC ys made s₁ m₂ a0 ((SameG.mkg s _ _ _ id).trans a1))
  obtain ⟨t, rfl⟩ := a6
  rw [Int.mul_one] at a9
  exact turn _ C D i t ys made s₁ oI oC m₂ a1 a2 (fun p hp => Heap.lt_size (N p hp).1) ((SameG.mkg s _ _ _ id).trans a4) a5 a7 a8 a9
theorem comp_list {ax : Addr} {lo : Obj} {vs : List Value} {nn : Nat} {news : List (Addr × Obj)} (J : Nat → List Value → List (Addr × Obj) → Prop) (hlo : lo = listOf vs.toArray nn) (hh : A.handled = none) (hm : (ax, lo) ∈ news)
    (hbd : ∀ i ys made, J i ys made → ys.length ≤ sizeLine) (hsrc : ∀ j ys made, J j ys made → (ax, lo) ∈ made)
    (hcell : ∀ y ∈ scope.names, y.2 ≠ .cell) (hx : scope.names.lookup x = some .local) (hkind : scope.kind = .function)
    (F : Fr h₀ L s.heap m) (N : News h₀ L s.heap news) (hJ : J 0 [] news)
    (turn : ∀ I C D i v ys made s₁ oI oC m₂, D < C → I < D → (∀ p ∈ news, @LT.lt Nat _ p.1 I) → SameG s s₁ → vs[i]? = some v → J i ys made → NsObj oC m₂ → m₂ x = some v → Fr h₀ L s₁.heap m → News h₀ L s₁.heap ((C, oC) :: (D, lst ys) :: (I, oI) :: made) → Ap I made → Ap C made → Ap D made →
      wpAny (model prog w) A (eval elt (compEnvC scope cl C env)) (CTurn h₀ L m I C D oI oC ys (fun made v => J (i + 1) (ys ++ [v]) made) s₁) (fun _ _ => False) s₁)
    (done : ∀ D ys made s₁, SameG s s₁ → (∀ p ∈ news, @LT.lt Nat _ p.1 D) → Fr h₀ L s₁.heap m → News h₀ L s₁.heap ((D, lst ys) :: made) → Ap D made → J vs.length ys made → Q (.ref D) s₁) :
    wpAny (model prog w) A (pyIter (.ref ax)) (fun it s => wpAny (model prog w) A (newList []) (fun acc s₃ => wpAny (model prog w) A (newFunctionEnv scope env.globals cl [] env.qual none .none (some env)) (fun cenv s₄ =>
      codeAny (model prog w) A (.compStart (.ListComp elt [⟨.Name x px, iter, [], 0⟩] scope pos) 0 it acc { cenv with scope := relabel scope env }) (compPost (model prog w) A E none Q acc cenv.locals) s₄) E s₃) E s) E s :=
  comp_listR (RR := fun acc C => compPost (model prog w) A E none Q acc C) J hlo hh hm hbd hsrc hcell hx hkind F N hJ turn fun C D oC ys made s₁ m₂ a0 a1 a2 a3 a4 a5 a6 a7 a8 => comp_post a0 a3 a4 a5 a6 fun h' F' N' => done D ys made _ (a1.trans ⟨h', s₁.toks, s₁.gens, rfl, id⟩) a2 F' N' a7 a8
end
end Mine
end
section
open PySem PySem.W PySem.Spec PySem.Calls PyProof.Rows
open Sem (wp)
set_option Elab.async false
set_option maxRecDepth 100000
namespace Mine
/-- the end of a turn of a for whose target is a cell -/
def LTurnC (h₀ : Heap) (L : Addr) (R : Result → Shared → Prop) (I c : Addr) (oI : Obj) (J : (Str → Option Value) → List (Addr × Obj) → Prop) (s₁ : Shared) (f : Flow) (s₂ : Shared) : Prop :=
  SameG s₁ s₂ ∧ match f with
    | .ret v => R (.ok (.ret v)) s₂
    | .brk => R (.ok .next) s₂
    | _ => ∃ m₂ oc v news, oc.data = .cell v ∧ Fr h₀ L s₂.heap m₂ ∧ News h₀ L s₂.heap ((I, oI) :: (c, oc) :: news) ∧ Ap I news ∧ Ap c news ∧ J m₂ news
section
variable {prog : Program} {w : World} {A : Around} {s : Shared} {env : Env} {h₀ : Heap}
/-- a for over a range by ones, its target a cell -/
theorem for_rangeC {R : Result → Shared → Prop} {E : Value → Shared → Prop} {r c : Addr} {oc : Obj} {v₀ : Option Value} {a b : Int} {t1 t2 t3 : Tok} {n : Nat} {x : Str} {px : Pos} {body : List Stmt} {m : Str → Option Value} {news : List (Addr × Obj)}
    (J : Nat → (Str → Option Value) → List (Addr × Obj) → Prop) (hh : A.handled = none) (hr : IsRange s.heap r a b 1 t1 t2 t3) (hsmall : Builtin.Range.small a b 1 = true) (hn : Builtin.Range.rangeSize a b 1 = (n : Int))
    (hk : env.scope.kind = .function) (hx : env.kindOf x = some .cell) (hcl : env.cells.lookup x = some c) (hoc : oc.data = .cell v₀)
    (F : Fr h₀ env.locals s.heap m) (N : News h₀ env.locals s.heap ((c, oc) :: news)) (apc : Ap c news) (J0 : J 0 m news)
    (hE : ∀ e s', E e s' → notedBy (model prog w) A env (fun e s' => R (.error e) s') e s')
    (turn : ∀ j t m₁ news s₁ I oI oc, SameG s s₁ → j < n → J j m₁ news → oc.data = .cell (some (.int (a + (j : Int)) t)) → Fr h₀ env.locals s₁.heap m₁ → News h₀ env.locals s₁.heap ((I, oI) :: (c, oc) :: news) → Ap I news → Ap c news → I ≠ c →
      wpAny (model prog w) A (execs body env) (LTurnC h₀ env.locals R I c oI (J (j + 1)) s₁) E s₁)
    (done : ∀ s₁ m₁ oc v news, SameG s s₁ → oc.data = .cell v → J n m₁ news → Fr h₀ env.locals s₁.heap m₁ → News h₀ env.locals s₁.heap ((c, oc) :: news) → Ap c news → R (.ok .next) s₁) :
    wpAny (model prog w) A (pyIter (.ref r)) (fun it s₂ => codeAny (model prog w) A (.forLoop (.Name x px) it body [] env) R s₂) E s := by
  refine wpAny_pyIter_range hr hsmall ?_
  rw [hn]
  have hL : env.locals < s.heap.objs.size := F.ns.lt
  generalize hI : s.heap.objs.size = I
  have hI0 : h₀.get? I = none ∧ I ≠ env.locals := by subst hI; exact ⟨Heap.get?_none_of_le (Nat.le_trans F.above (Nat.le_of_lt hL)), Nat.ne_of_gt hL⟩
  have hcI : c ≠ I := by subst hI; exact Nat.ne_of_lt (Heap.lt_size (N _ (.head _)).1)
  have hc0 := (N _ (.head _)).2
  have W := Walks.range (prog := prog) (w := w) hh I a 1 n
  refine codeAny_forLoop_any (fun k s₁ => ∃ j m₁ oc v news, SameG s s₁ ∧ j ≤ n ∧ k = n + 1 - j ∧ IsRangeIter s₁.heap I (a + (j : Int) * 1) ((n : Int) - (j : Int)) 1 ∧ oc.data = .cell v ∧ Fr h₀ env.locals s₁.heap m₁ ∧ News h₀ env.locals s₁.heap ((c, oc) :: news) ∧ Ap I news ∧ Ap c news ∧ J j m₁ news) ?_ (n + 1)
    ⟨0, m, oc, v₀, news, SameG.mkg s _ _ _ id, Nat.zero_le _, rfl, by subst hI; simpa using Heap.get?_push_size _ rfl, hoc, F.push _, fun p hp => ⟨Heap.get?_push_of_some _ (N p hp).1, (N p hp).2⟩, fun p hp => by subst hI; exact Nat.ne_of_lt (Heap.lt_size (N p (.tail _ hp)).1), apc, J0⟩
  rintro k s₁ ⟨j, m₁, oc, v, news, hsame, hj, rfl, hst, hoc, F, N, apI, apc, hJ⟩
  have apI' : Ap I ((c, oc) :: news) := List.forall_mem_cons.mpr ⟨hcI, apI⟩
  by_cases hlt : j < n
  · refine W.item j s₁ _ _ hlt hst fun v h1 tk1 hv hst1 hk1 => ?_
    obtain ⟨t, rfl⟩ := hv
    have hk1' : ∀ b o, b ≠ I → s₁.heap.get? b = some o → h1.get? b = some o := fun b o hb e => hk1 b o (by simpa using hb) e
    refine wpAny_of_eq (rfl : letOwnedTupleGo (.Name x px) (.ref I) (.int (a + (j : Int) * 1) t) = pure ()) ?_
    have F1 : Fr h₀ env.locals h1 m₁ := fr_one F (Ne.symm hI0.2) hI0.1 hk1'
    have N1 : News h₀ env.locals h1 ((c, oc) :: news) := news_one N apI' hk1'
    refine wpAny_assign_Name (wpAny_storeName_cell hk hx hcl ⟨oc, (N1 _ (.head _)).1, hoc⟩ (fun h2 hc2 hs2 => ?_))
    replace hs2 : Heap.SameBut c h1 h2 := hs2
    have hk2 : ∀ b o, b ≠ c → h1.get? b = some o → h2.get? b = some o := fun b o hb e => hs2.extBut b o hb e
    obtain ⟨oc2, hoc2, hd2⟩ := hc2
    rw [Int.mul_one] at hd2
    have F2 : Fr h₀ env.locals h2 m₁ := fr_one F1 (Ne.symm hc0.1) hc0.2 hk2
    have hoI2 := hk2 _ _ (Ne.symm hcI) hst1
    have N2 : News h₀ env.locals h2 ((I, { cls := .type "range_iterator", dict := none, data := .fields #[rawInt (a + ((j + 1 : Nat) : Int) * 1), rawInt ((n : Int) - ((j + 1 : Nat) : Int)), rawInt 1], slots := #[] }) :: (c, oc2) :: news) :=
      List.forall_mem_cons.mpr ⟨⟨hoI2, hI0.2, hI0.1⟩, List.forall_mem_cons.mpr ⟨⟨hoc2, hc0.1, hc0.2⟩, fun q hq => ⟨hk2 _ _ (apc q hq) (N1 q (.tail _ hq)).1, (N1 q (.tail _ hq)).2⟩⟩⟩
    refine wpAny_mono (turn j t m₁ news { s₁ with heap := h2, toks := _ } I _ oc2 (hsame.trans (SameG.mk' _ _ _)) hlt hJ hd2 F2 N2 apI apc (Ne.symm hcI)) (fun f s₂ hf => ?_) hE
    obtain ⟨hs12, hf⟩ := hf
    have next : (∃ m₂ oc v news, oc.data = .cell v ∧ Fr h₀ env.locals s₂.heap m₂ ∧ News h₀ env.locals s₂.heap ((I, { cls := .type "range_iterator", dict := none, data := .fields #[rawInt (a + ((j + 1 : Nat) : Int) * 1), rawInt ((n : Int) - ((j + 1 : Nat) : Int)), rawInt 1], slots := #[] }) :: (c, oc) :: news) ∧ Ap I news ∧ Ap c news ∧ J (j + 1) m₂ news) →
        ∃ k', k' < n + 1 - j ∧ ∃ j m₁ oc v news, SameG s s₂ ∧ j ≤ n ∧ k' = n + 1 - j ∧ IsRangeIter s₂.heap I (a + (j : Int) * 1) ((n : Int) - (j : Int)) 1 ∧ oc.data = .cell v ∧ Fr h₀ env.locals s₂.heap m₁ ∧ News h₀ env.locals s₂.heap ((c, oc) :: news) ∧ Ap I news ∧ Ap c news ∧ J j m₁ news := by
      rintro ⟨m₂, oc3, v3, news2, hd3, F3, N3, ap3, ap4, hJ3⟩
      exact ⟨n + 1 - (j + 1), by omega, j + 1, m₂, oc3, v3, news2, (hsame.trans (SameG.mk' _ _ _)).trans hs12, hlt, rfl, (N3 _ (.head _)).1, hd3, F3, fun q hq => N3 q (.tail _ hq), ap3, ap4, hJ3⟩
    cases f with
    | ret v => exact hf
    | brk => exact hf
    | next => exact next hf
    | cont => exact next hf
  · have hje : j = n := by omega
    subst hje
    refine W.done s₁ _ _ hst fun h1 tk1 hk1 => wpAny_execs_nil ?_
    have hk1' : ∀ b o, b ≠ I → s₁.heap.get? b = some o → h1.get? b = some o := fun b o hb e => hk1 b o (by simpa using hb) e
    exact done _ m₁ oc v news (hsame.trans (SameG.mk' _ _ _)) hoc hJ (fr_one F (Ne.symm hI0.2) hI0.1 hk1') (news_one N apI' hk1') apc
end
end Mine
end
section
open PySem PySem.W PySem.Spec PySem.Calls PyProof.Rows
set_option Elab.async false
set_option maxRecDepth 100000
namespace Mine
/-- the end of the law: True is told, what stood ahead of the call stands, the code's tables have grown, the generators left are bare -/
def LawEnd (cw : ClaimW) (args : List WData) (s₁ : Shared) (tabs : List (Addr × Addr)) (r : Result) (s' : Shared) : Prop :=
  r = .ok (.ret (.bool true)) ∧ cw.post args (.bool true) args = true ∧ (∀ b o, (ghostOf s₁.heap tabs).get? b = some o → s'.heap.get? b = some o) ∧ s'.os = s₁.os ∧ AllBare s'.gens ∧ GrownAll tabs s'.heap
theorem kn_postG {M : Model} {A : Around} {cd : Code} {s s₁ : Shared} {cw : ClaimW} {cl : Str → Option Addr} {mean : ExcName → Option Value} {args : List WData} {tabs : List (Addr × Addr)} (hT : TabsAt tabs s₁.heap) (hr : ∀ a x, cw.raises a x = false)
    (h : codeAny M A cd (LawEnd cw args s₁ tabs) s) : codeAny M A cd (GoodWG cw cl mean args s₁) s := by
  refine codeAny_mono h fun r s' e => ?_
  obtain ⟨rfl, hp, hk, hos, hg, hgr⟩ := e
  have old : ∀ b o, s₁.heap.get? b = some o → (b ∉ tabs.map (·.2) ∧ s'.heap.get? b = some o) ∨ (isCodeTable s₁.heap b ∧ o = tabObj #[] ∧ ∃ ps, s'.heap.get? b = some (tabObj ps)) := fun b o e => by
    by_cases hb : b ∈ tabs.map (·.2)
    · obtain ⟨q, hq, rfl⟩ := List.mem_map.mp hb
      have e2 := (hT q hq).2
      rw [e] at e2
      exact .inr ⟨((hT q hq).1.tab (hT q hq).2).isCodeTable, Option.some.inj e2, hgr.get q hq⟩
    · exact .inl ⟨hb, hk b o (ghost_ne e hb)⟩
  refine ⟨.inl ⟨.bool true, .bool true, [], rfl, fun x => hr _ x, ReadsW.bool true, hp, fun _ => ⟨List.nodup_nil, fun _ hm => (nomatch hm)⟩⟩, ⟨fun b o e => ?_, fun b o e => ?_⟩, hos, hg⟩
  · rcases old b o e with ⟨_, h1⟩ | ⟨ht, rfl, ps, hP⟩
    · exact .inl h1
    · exact .inr (.inl ⟨ht, rfl, #[], ps, rfl, by rw [Array.empty_append]; exact hP⟩)
  · rcases old b o e with ⟨_, h1⟩ | ⟨_, _, ps, hP⟩
    · exact ⟨o, h1⟩
    · exact ⟨_, hP⟩
end Mine
namespace Mine
theorem post_ok (ns : List Int) : PySem.Challenge.rw_ph0116_01.row.claim.post [ofPy (PyData.list (List.map PyData.int ns))] (WData.bool true) [ofPy (PyData.list (List.map PyData.int ns))] = true := by
  wrow_post
end Mine
end
section
open PySem PySem.W PySem.Spec PySem.Calls PyProof.Rows
open Sem (wp)
set_option Elab.async false
set_option maxRecDepth 100000
namespace Mine
section
variable {prog : Program} {w : World} {A : Around} {s : Shared} {env : Env} {E : Value → Shared → Prop}
theorem assign_comp {elt iter : PySem.Expr} {x y : Str} {px py : Pos} {scope : Scope} {cl : List (Str × Addr)} {pos spos : Pos} {Q : Flow → Shared → Prop}
    (hsw : swapsWith (.ListComp elt [⟨.Name x px, iter, [], 0⟩] scope pos) (some (.Name y py)) spos.line env = pure true)
    (hs : ∀ x, foldedSetIterable iter env x = pure x) (hclos : closureFor scope env = pure cl) (hkind : scope.kind = .function) (hnames : ∀ z ∈ scope.names, z.2 = .local → scope.names.lookup z.1 = some .local)
    (h : wpAny (model prog w) A (eval iter env) (fun xv s₁ => wpAny (model prog w) A (pyIter xv) (fun it s₂ => wpAny (model prog w) A (newList []) (fun acc s₃ => wpAny (model prog w) A (newFunctionEnv scope env.globals cl [] env.qual none .none (some env)) (fun cenv s₄ =>
      codeAny (model prog w) A (.compStart (.ListComp elt [⟨.Name x px, iter, [], 0⟩] scope pos) 0 it acc { cenv with scope := relabel scope env }) (compPost (model prog w) A E (some (assign (.Name y py) env)) (fun _ s' => Q .next s') acc cenv.locals) s₄) E s₃) E s₂) E s₁) E s) :
    wpAny (model prog w) A (exec (.Assign [.Name y py] (.ListComp elt [⟨.Name x px, iter, [], 0⟩] scope pos) spos) env) Q E s := by
  rw [exec_Assign_Name_used _ _ _ _ hsw]
  refine wpAny_bind (wpAny_standAt (wpAny_bind ?_))
  show wpAny _ A (do let _ ← comprehension (.ListComp elt [⟨.Name x px, iter, [], 0⟩] scope pos) scope env _ (newList []) false (eval iter env) (some (assign (.Name y py) env))) _ _ s
  exact wpAny_bind (wpAny_mono (wpAny_comprehension_free (use := some (assign (.Name y py) env)) (Q := fun _ s' => Q .next s') rfl hs hclos hkind hnames h) (fun _ s' hq => wpAny_pure (wpAny_pure hq)) fun _ _ e => e)
open LCg (lst NsObj ns_obj) in
theorem comp_rangeA {elt iter : PySem.Expr} {x y : Str} {px py : Pos} {scope : Scope} {cl : List (Str × Addr)} {pos : Pos} {h₀ : Heap} {L : Addr} {m : Str → Option Value} {n : Nat} {Q : Value → Shared → Prop}
    {r : Addr} {a b : Int} {t1 t2 t3 : Tok} {news : List (Addr × Obj)} (J : Nat → List Value → List (Addr × Obj) → Prop) (hh : A.handled = none) (hr : IsRange s.heap r a b 1 t1 t2 t3) (hsmall : Builtin.Range.small a b 1 = true) (hn : Builtin.Range.rangeSize a b 1 = (n : Int))
    (hbd : ∀ i ys made, J i ys made → ys.length ≤ sizeLine)
    (hcell : ∀ y ∈ scope.names, y.2 ≠ .cell) (hx : scope.names.lookup x = some .local) (hkind : scope.kind = .function)
    (hL : env.locals = L) (hy : env.kindOf y = some .local) (hp : (env.scope.kind == .class || (env.scope.kind == .module && env.locals != env.globals)) = false)
    (F : Fr h₀ L s.heap m) (N : News h₀ L s.heap news) (hJ : J 0 [] news)
    (turn : ∀ I C D i t ys made s₁ oI oC m₂, D < C → I < D → (∀ p ∈ news, @LT.lt Nat _ p.1 I) → SameG s s₁ → i < n → J i ys made → NsObj oC m₂ → m₂ x = some (.int (a + (i : Int)) t) → Fr h₀ L s₁.heap m → News h₀ L s₁.heap ((C, oC) :: (D, lst ys) :: (I, oI) :: made) → Ap I made → Ap C made → Ap D made →
      wpAny (model prog w) A (eval elt (compEnvC scope cl C env)) (CTurn h₀ L m I C D oI oC ys (fun made v => J (i + 1) (ys ++ [v]) made) s₁) (fun _ _ => False) s₁)
    (done : ∀ D ys made s₁, SameG s s₁ → (∀ p ∈ news, @LT.lt Nat _ p.1 D) → Fr h₀ L s₁.heap (fun z => if z = y then some (.ref D) else m z) → News h₀ L s₁.heap ((D, lst ys) :: made) → Ap D made → J n ys made → Q .none s₁) :
    wpAny (model prog w) A (pyIter (.ref r)) (fun it s => wpAny (model prog w) A (newList []) (fun acc s₃ => wpAny (model prog w) A (newFunctionEnv scope env.globals cl [] env.qual none .none (some env)) (fun cenv s₄ =>
      codeAny (model prog w) A (.compStart (.ListComp elt [⟨.Name x px, iter, [], 0⟩] scope pos) 0 it acc { cenv with scope := relabel scope env }) (compPost (model prog w) A E (some (assign (.Name y py) env)) Q acc cenv.locals) s₄) E s₃) E s) E s :=
  comp_rangeR (RR := fun acc C => compPost (model prog w) A E (some (assign (.Name y py) env)) Q acc C) J hh hr hsmall hn hbd hcell hx hkind F N hJ turn fun C D oC ys made s₁ m₂ a0 a1 a2 a3 a4 a5 a6 a7 a8 => comp_postA hL hy hp a0 a3 a4 a5 a6 fun h' tk F' N' => done D ys made _ (a1.trans ⟨h', tk, s₁.gens, rfl, id⟩) a2 F' N' a7 a8
end
end Mine
end
section
open PySem PySem.W PySem.Spec PySem.Calls PyProof.Rows
set_option maxRecDepth 100000
namespace Mine
/-- the frame of _law_forests, what a turn needs of it -/
def mF (lk : Addr) (k : Int) (tk' : Tok) (p : Str) (tp : Tok) (wt : Int) (t : Tok) (mm : Str → Option Value) : Str → Option Value := fun y =>
  if y = Str.ofString "weight" then some (.int wt t) else if y = Str.ofString "kinds" then some (.ref lk) else if y = Str.ofString "trees" then some (.int k tk') else if y = Str.ofString "piece" then some (.str p tp) else mm y
theorem mF_self {lk : Addr} {k : Int} {tk' : Tok} {p : Str} {tp : Tok} {wt : Int} {t : Tok} {m : Str → Option Value} (h1 : m (Str.ofString "weight") = some (.int wt t)) (h2 : m (Str.ofString "kinds") = some (.ref lk)) (h3 : m (Str.ofString "trees") = some (.int k tk')) (h4 : m (Str.ofString "piece") = some (.str p tp)) : m = mF lk k tk' p tp wt t m := by
  funext y
  unfold mF
  split
  · rename_i h; rw [h]; exact h1
  · split
    · rename_i h; rw [h]; exact h2
    · split
      · rename_i h; rw [h]; exact h3
      · split
        · rename_i h; rw [h]; exact h4
        · rfl
end Mine
namespace Mine
def mG (lk : Addr) (k : Int) (tk' : Tok) (p : Str) (tp : Tok) (wt : Int) (t : Tok) (wy : Int) (ty : Tok) (mm : Str → Option Value) : Str → Option Value := fun y => if y = Str.ofString "ways" then some (.int wy ty) else if y = Str.ofString "weight" then some (.int wt t) else if y = Str.ofString "kinds" then some (.ref lk) else if y = Str.ofString "trees" then some (.int k tk') else if y = Str.ofString "piece" then some (.str p tp) else mm y
theorem mG_self {lk : Addr} {k : Int} {tk' : Tok} {p : Str} {tp : Tok} {wt : Int} {t : Tok} {wy : Int} {ty : Tok} {m : Str → Option Value} (h0 : m (Str.ofString "ways") = some (.int wy ty)) (h1 : m (Str.ofString "weight") = some (.int wt t)) (h2 : m (Str.ofString "kinds") = some (.ref lk)) (h3 : m (Str.ofString "trees") = some (.int k tk')) (h4 : m (Str.ofString "piece") = some (.str p tp)) : m = mG lk k tk' p tp wt t wy ty m := by
  funext y
  unfold mG
  split
  · rename_i h; rw [h]; exact h0
  · have := congrFun (mF_self h1 h2 h3 h4) y
    unfold mF at this
    exact this
end Mine
end
section
open PySem PySem.W PySem.Spec PySem.Calls PyProof.Rows
set_option maxRecDepth 100000
namespace Mine
/-- the text of a row -/
def pcs (d : Int) : Str := Str.ofString ")" ++ Txt.mul (Str.ofString "(") d
def joined (row : List Int) : Str := Txt.join (Str.ofString "") (row.map pcs)
def textOf (k : Int) (p : Str) (row : List Int) : Str := Txt.mul (Str.ofString "(") k ++ p ++ joined row
def OkS (x : Str) : Prop := ∀ c ∈ x.cps.toList, c < 128 ∧ c ≠ 34
theorem OkS.append {x y : Str} (hx : OkS x) (hy : OkS y) : OkS (x ++ y) := by
  intro c hc
  rw [show (x ++ y).cps = x.cps ++ y.cps from rfl, Array.toList_append] at hc
  rcases List.mem_append.mp hc with h | h
  · exact hx c h
  · exact hy c h
theorem okS_mul {d : Int} (h0 : 0 ≤ d) (h4 : d ≤ 4) : OkS (Txt.mul (Str.ofString "(") d) ∧ (Txt.mul (Str.ofString "(") d).length ≤ 4 := by
  have : d = 0 ∨ d = 1 ∨ d = 2 ∨ d = 3 ∨ d = 4 := by omega
  rcases this with rfl | rfl | rfl | rfl | rfl <;> exact ⟨by unfold OkS; decide +kernel, by decide +kernel⟩
theorem okS_pcs {d : Int} (h0 : 0 ≤ d) (h3 : d ≤ 3) : OkS (pcs d) ∧ (pcs d).length ≤ 4 := by
  have : d = 0 ∨ d = 1 ∨ d = 2 ∨ d = 3 := by omega
  rcases this with rfl | rfl | rfl | rfl <;> exact ⟨by unfold OkS; decide +kernel, by decide +kernel⟩
theorem okS_join : ∀ l : List Str, (∀ x ∈ l, OkS x) → OkS (Str.join (Str.ofString "") l)
  | [], _ => by show OkS Str.empty; unfold OkS; decide +kernel
  | [x], h => h x (.head _)
  | x :: y :: r, h => ((h x (.head _)).append (by unfold OkS; decide +kernel : OkS (Str.ofString ""))).append (okS_join (y :: r) fun z hz => h z (.tail _ hz))
def Row3 (row : List Int) : Prop := ∀ d ∈ row, 0 ≤ d ∧ d ≤ 3
theorem rowsL_mem : ∀ (c : Nat) (t : Int), ∀ row ∈ rowsL c t, Row3 row
  | 0, t, row, h => by
    unfold rowsL at h
    split at h
    · rw [List.mem_singleton.mp h]; intro d hd; cases hd
    · cases h
  | c + 1, t, row, h => by
    unfold rowsL at h
    obtain ⟨f, hf0, hf⟩ := List.mem_flatMap.mp h
    obtain ⟨r, hr, rfl⟩ := List.mem_map.mp hf
    have := List.mem_range.mp hf0
    intro d hd
    rcases List.mem_cons.mp hd with rfl | hd
    · omega
    · exact rowsL_mem c _ r hr d hd
theorem okS_joined {row : List Int} (h : Row3 row) : OkS (joined row) := by
  unfold joined
  show OkS (Builtin.Str.glued _ _)
  rw [StrLaws.glued_eq_join]
  refine okS_join _ fun x hx => ?_
  obtain ⟨d, hd, rfl⟩ := List.mem_map.mp hx
  exact (okS_pcs (h d hd).1 (h d hd).2).1
theorem pcs_sum {row : List Int} (h : Row3 row) : ((row.map pcs).map (·.length)).sum ≤ 4 * row.length := by
  induction row with
  | nil => simp
  | cons d r ih =>
    have h1 := (okS_pcs (h d (.head _)).1 (h d (.head _)).2).2
    have h2 := ih fun x hx => h x (.tail _ hx)
    simp only [List.map_cons, List.sum_cons, List.length_cons]
    omega
theorem len_joined {row : List Int} (h : Row3 row) (h4 : row.length ≤ 4) : (joined row).length ≤ 16 := by
  have h1 := StrLaws.join_length_le (Str.ofString "") (row.map pcs)
  have h2 := pcs_sum h
  have h3 : (Str.ofString "").length = 0 := by decide +kernel
  unfold joined
  show (Builtin.Str.glued _ _).length ≤ _
  rw [StrLaws.glued_eq_join]
  rw [h3, Nat.mul_zero, Nat.add_zero] at h1
  omega
theorem okS_text {k : Int} {p : Str} {row : List Int} (h0 : 0 ≤ k) (h4 : k ≤ 4) (hp : OkS p) (hr : Row3 row) : OkS (textOf k p row) := ((okS_mul h0 h4).1.append hp).append (okS_joined hr)
theorem okS_all {x : Str} (h : OkS x) : x.cps.all (· < 128) = true := by
  rw [← Array.all_toList, List.all_eq_true]
  intro c hc
  exact decide_eq_true (h c hc).1
theorem okS_quote {x : Str} (h : OkS x) : (Builtin.Str.occurrences x (Str.ofString "\"") 0 x.length 1).isEmpty = true := by
  have e : Str.ofString "\"" = ⟨#[34]⟩ := by decide +kernel
  rw [e]
  have h1 := StrLaws.found_one x 34
  rw [decide_eq_false (fun hc => (h 34 hc).2 rfl)] at h1
  simpa using h1
/-- the kinds' product along a row -/
def waysOf (ks : List Int) (row : List Int) : Int := row.foldl (fun a d => a * ks.getD d.toNat 0) 1
def forestTo (ks : List Int) (k : Int) (p : Str) (rows : List (List Int)) : Int := rows.foldl (fun a row => if chk (textOf k p row) = true then a + waysOf ks row else a) 0
def forestW (ks : List Int) (n : Nat) (k : Int) (p : Str) : Int := forestTo ks k p (rowsL n (n - k))
theorem forestTo_snoc (ks : List Int) (k : Int) (p : Str) (rows : List (List Int)) (row : List Int) : forestTo ks k p (rows ++ [row]) = if chk (textOf k p row) = true then forestTo ks k p rows + waysOf ks row else forestTo ks k p rows := by
  unfold forestTo
  rw [List.foldl_append]; rfl
theorem take_snoc {α : Type} {l : List α} {j : Nat} {a : α} (h : l[j]? = some a) : l.take (j + 1) = l.take j ++ [a] := by rw [List.take_add_one, h]; rfl
theorem ways_snoc (ks row : List Int) (d : Int) : waysOf ks (row ++ [d]) = waysOf ks row * ks.getD d.toNat 0 := by
  unfold waysOf
  rw [List.foldl_append]; rfl
theorem ways_bd {ks : List Int} {B : Nat} (hks : ∀ x ∈ ks, 0 ≤ x ∧ x < 2 ^ B) : ∀ row : List Int, 0 ≤ waysOf ks row ∧ waysOf ks row ≤ 2 ^ (B * row.length) := by
  intro row
  have gen : ∀ (row : List Int) (a : Int) (c : Nat), 0 ≤ a → a ≤ 2 ^ c → 0 ≤ row.foldl (fun a d => a * ks.getD d.toNat 0) a ∧ row.foldl (fun a d => a * ks.getD d.toNat 0) a ≤ 2 ^ (c + B * row.length) := by
    intro row
    induction row with
    | nil => intro a c h0 h1; simpa using ⟨h0, h1⟩
    | cons d r ih =>
      intro a c h0 h1
      have hg : 0 ≤ ks.getD d.toNat 0 ∧ ks.getD d.toNat 0 ≤ 2 ^ B := by
        rcases Nat.lt_or_ge d.toNat ks.length with h | h
        · have e : ks.getD d.toNat 0 = ks[d.toNat] := by simp [List.getD, h]
          rw [e]
          have := hks _ (List.getElem_mem h)
          exact ⟨this.1, Int.le_of_lt this.2⟩
        · have e : ks.getD d.toNat 0 = 0 := by simp [List.getD, List.getElem?_eq_none h]
          rw [e]
          exact ⟨Int.le_refl 0, Int.le_of_lt (Int.pow_pos (by decide))⟩
      have h2 := ih (a * ks.getD d.toNat 0) (c + B) (Int.mul_nonneg h0 hg.1) (by rw [Int.pow_add]; exact Int.mul_le_mul h1 hg.2 hg.1 (Int.le_of_lt (Int.pow_pos (by decide))))
      rw [List.foldl_cons]
      rw [show c + B * (d :: r).length = c + B + B * r.length from by rw [List.length_cons, Nat.mul_add, Nat.mul_one]; omega]
      exact h2
  have h := gen row 1 0 (by decide) (by decide)
  rw [Nat.zero_add] at h
  exact h
end Mine
namespace Mine
theorem ints_get {vs : List Value} {ns : List Int} (h : IntsAre vs ns) : ∀ {j : Nat} {v : Value}, vs[j]? = some v → ∃ d t, v = .int d t ∧ ns[j]? = some d := by
  induction h with
  | nil => intro j v e; cases e
  | cons a b _ ih =>
    intro j v e
    cases j with
    | zero => simp only [List.getElem?_cons_zero, Option.some.injEq] at e; subst e; exact ⟨_, _, rfl, rfl⟩
    | succ j => exact ih (by simpa using e)
theorem strs_snoc {ys : List Value} {xs : List Str} {x : Str} {t : Tok} (h : StrsAre ys xs) : StrsAre (ys ++ [.str x t]) (xs ++ [x]) := by
  induction h with
  | nil => exact .cons _ _ .nil
  | cons a b _ ih => exact .cons _ _ ih
theorem strs_len {ys : List Value} {xs : List Str} (h : StrsAre ys xs) : ys.length = xs.length := by
  induction h with
  | nil => rfl
  | cons _ _ _ ih => simp [ih]
theorem sz1 {k : Int} {p : Str} (h0 : 0 ≤ k) (h4 : k ≤ 4) (hp : p.length ≤ 8) : (Txt.mul (Str.ofString "(") k).length + p.length ≤ sizeLine := by
  have := (okS_mul h0 h4).2
  exact Nat.le_trans (by omega : _ ≤ 12) (by decide +kernel)
theorem sz2 {k : Int} {p : Str} {row : List Int} (h0 : 0 ≤ k) (h4 : k ≤ 4) (hp : p.length ≤ 8) (hr : Row3 row) (hl : row.length ≤ 4) : (Txt.mul (Str.ofString "(") k ++ p).length + (Txt.join (Str.ofString "") (row.map pcs)).length ≤ sizeLine := by
  have := (okS_mul h0 h4).2
  have h1 := len_joined hr hl
  have h2 : (Txt.mul (Str.ofString "(") k ++ p).length = (Txt.mul (Str.ofString "(") k).length + p.length := Str.length_append ..
  have h3 : (Txt.join (Str.ofString "") (row.map pcs)).length ≤ 16 := h1
  rw [h2]
  exact Nat.le_trans (by omega : _ ≤ 28) (by decide +kernel)
theorem sz3 {d : Int} (h0 : 0 ≤ d) (h3 : d ≤ 3) : (Str.ofString ")").length + (Txt.mul (Str.ofString "(") d).length ≤ sizeLine := by
  have h1 := (okS_mul h0 (by omega : d ≤ 4)).2
  have h2 : (Str.ofString ")").length = 1 := by decide +kernel
  rw [h2]
  exact Nat.le_trans (by omega : _ ≤ 5) (by decide +kernel)
theorem sz4 {row : List Int} (hr : Row3 row) (hl : row.length ≤ 4) : ((row.map pcs).map (·.length)).sum + (row.map pcs).length ≤ 1048576 := by
  have := pcs_sum hr
  rw [List.length_map]; omega
end Mine
namespace Mine
theorem beq_t {b : Bool} (h : (b == true) = true) : b = true := by cases b <;> simp_all
theorem beq_f {b : Bool} (h : (b == true) = false) : b = false := by cases b <;> simp_all
theorem getD_bd {ks : List Int} {B : Nat} (hks : ∀ x ∈ ks, 0 ≤ x ∧ x < 2 ^ B) (i : Nat) : 0 ≤ ks.getD i 0 ∧ ks.getD i 0 < 2 ^ B := by
  rcases Nat.lt_or_ge i ks.length with h | h
  · have e : ks.getD i 0 = ks[i] := by simp [List.getD, h]
    rw [e]
    exact hks _ (List.getElem_mem h)
  · have e : ks.getD i 0 = 0 := by simp [List.getD, List.getElem?_eq_none h]
    rw [e]
    exact ⟨Int.le_refl 0, Int.pow_pos (by decide)⟩
theorem mulOk_get {ks : List Int} (hks : ∀ x ∈ ks, 0 ≤ x ∧ x < 2 ^ 40) (a : Int) (i : Nat) : IntMulOk a (ks.getD i 0) := by
  have h := getD_bd hks i
  exact IntMulOk.of_right (Nat.le_trans (bits_of_lt h.1 h.2) (by decide))
end Mine
end
section
open PySem PySem.W PySem.Spec PySem.Calls PyProof.Rows
set_option maxRecDepth 100000
namespace Mine
theorem ints_at {vs : List Value} {ns : List Int} (h : IntsAre vs ns) : ∀ {j : Nat}, j < ns.length → ∃ t, vs[j]? = some (.int (ns.getD j 0) t) := by
  induction h with
  | nil => intro j e; cases e
  | cons a b _ ih =>
    intro j e
    cases j with
    | zero => exact ⟨_, rfl⟩
    | succ j =>
      obtain ⟨t, ht⟩ := ih (j := j) (by simpa using e)
      exact ⟨t, by simpa using ht⟩
theorem item_ints {prog : Program} {w : World} {A : Around} {E : Value → Shared → Prop} {s : Shared} {value slice : PySem.Expr} {l : Addr} {vs : List Value} {ns : List Int} {d : Int} {u : Tok} {Q : Value → Shared → Prop}
    (hl : s.heap.IsList l vs.toArray) (hI : IntsAre vs ns) (h0 : 0 ≤ d) (hd : d < (ns.length : Int)) (hn : ns.length ≤ 1000) (h : ∀ t, Q (.int (ns.getD d.toNat 0) t) s)
    (hs : subscripted slice false (.ref l) (.int d u) = operate [.ref l, .int d u] (getItem (.ref l) (.int d u)) := by with_unfolding_all rfl) :
    wpAny (model prog w) A (subscriptTail value slice (.ref l) (.int d u)) Q E s := by
  obtain ⟨t, ht⟩ := ints_at hI (j := d.toNat) (by omega)
  exact tail_any hl.typeIs slot_list_getitem.lookup (wpAny_getItem_list hl h0 (by omega) (by simpa using ht) (h t)) hs
end Mine
end
section
open PySem PySem.W PySem.Spec PySem.Calls PyProof.Rows
local macro_rules | `(tactic| walk_at "binaryOp LShift int int") => `(tactic| (k_here; with_reducible refine lshift_int ?a9 ?b9 ?_; (case a9 => assumption); (case b9 => assumption)))
local macro_rules | `(tactic| walk_at "binaryOp RShift int int") => `(tactic| (k_here; with_reducible refine rshift_int ?a9 ?_; (case a9 => assumption)))
local macro_rules | `(tactic| walk_at "binaryOp Pow int int") => `(tactic| (k_here; with_reducible refine pow_int ?a9 ?b9 ?_; (case a9 => assumption); (case b9 => assumption)))
local macro_rules | `(tactic| walk_at "binaryOp Mult int int") => `(tactic| (k_here; with_reducible refine mul_int ?_ ?a9; rotate_left; (case a9 => assumption)))
section
open PySem PySem.W PySem.Spec PySem.Calls PyProof.Rows
set_option Elab.async false
set_option maxRecDepth 100000
set_option maxHeartbeats 8000000
namespace Mine
theorem ltR1 {a : Prop} {d : Nat} {r : List (Addr × Obj)} (h : a ∧ AllLt d r) : ∀ p ∈ r, @LT.lt Nat _ p.1 d := ktn_ltOf h.2
theorem ltR2 {a b : Prop} {d : Nat} {r : List (Addr × Obj)} (h : a ∧ b ∧ AllLt d r) : ∀ p ∈ r, @LT.lt Nat _ p.1 d := ktn_ltOf h.2.2
theorem ltR3 {a b c : Prop} {d : Nat} {r : List (Addr × Obj)} (h : a ∧ b ∧ c ∧ AllLt d r) : ∀ p ∈ r, @LT.lt Nat _ p.1 d := ktn_ltOf h.2.2.2
theorem ltR4 {a b c e : Prop} {d : Nat} {r : List (Addr × Obj)} (h : a ∧ b ∧ c ∧ e ∧ AllLt d r) : ∀ p ∈ r, @LT.lt Nat _ p.1 d := ktn_ltOf h.2.2.2.2
local macro_rules | `(tactic| k_all) => `(tactic| (intro p9 hp9; first
  | (have h9 := ktn_ltOf (by assumption) p9 hp9; refine neN ?_; omega)
  | (have h9 := ltR1 (by assumption) p9 hp9; refine neN ?_; omega)
  | (have h9 := ltR2 (by assumption) p9 hp9; refine neN ?_; omega)
  | (have h9 := ltR3 (by assumption) p9 hp9; refine neN ?_; omega)
  | (have h9 := ltR4 (by assumption) p9 hp9; refine neN ?_; omega)))
local macro_rules | `(tactic| k_all) => `(tactic| assumption)
section
theorem off_C2 : True := by
  w_top off
  trivial
open PySem PySem.W PySem.Spec PySem.Calls PyProof.Rows
set_option Elab.async false
set_option maxRecDepth 100000
set_option maxHeartbeats 8000000
theorem News.sub {h₀ h : Heap} {L : Addr} {news news' : List (Addr × Obj)} (N : News h₀ L h news) (hs : ∀ p ∈ news', p ∈ news) : News h₀ L h news' := fun p hp => N p (hs p hp)
theorem nameNews {h₀ h : Heap} {L : Addr} {news : List (Addr × Obj)} (N : News h₀ L h news) : ∃ nw, nw = news ∧ News h₀ L h nw := ⟨_, rfl, N⟩
theorem d2i_first (w : World) (mean : ExcName → Option Value) (mg mb : Str → Option Value) :
  ∀ (dp un : Nat) (gd : Option (List Code)) (cn : Str) (cs : Scope) (a : Addr) (ccd : Value) (cl : List (Str × Addr)) (outer : List Env) (A₀ : Around) (base h₀ : Heap) (L : Addr) (m : Str → Option Value) (rest : List (Addr × Obj)) (s : Shared) (l : Addr) (vs : List Value) (ns : List Int) (k : Nat) (n : Int) (tn : Tok)
    (Q E : Value → Shared → Prop),
    Below A₀ base outer h₀ → Fr h₀ L s.heap m → (Mine.hd.heap_39 w.params).In h₀ → News h₀ L s.heap ((37, tabObj #[]) :: (l, listOf vs.toArray k) :: rest) → Top VW LO mean mg mb h₀ → cs.kind = .function → CodeHd base 41 37 →
    l ≠ 37 → (∀ q ∈ rest, q.1 ≠ 37) → IntsAre vs ns → 0 ≤ n → n ≤ 100000 → (∀ d ∈ ns, 0 ≤ d ∧ d < 2 ^ n.toNat) → 0 < ns.length → ns.length ≤ 64 →
    dp + 10 < recursionLimit → un + 80 < cLine →
    (∀ c' oc' vs' t' h' t tk', oc'.data = .fields vs' → vs'[1]? = some (.str (Str.ofString "_digits2int.<locals>.inner") t') → (∀ q ∈ (l, listOf vs.toArray k) :: rest, q.1 < c') → 37 < c' → Fr h₀ L h' m → News h₀ L h' ((37, tabObj #[rawInt 47, rawInt 4, .ref c']) :: (c', oc') :: (l, listOf vs.toArray k) :: rest) → Q (.int (dsum n.toNat ns) t) { s with heap := h', toks := tk' }) →
    wpAny (model PySem.Challenge.rw_ph0116_01.row.prog w) (ktrTop dp un gd cn cs L a ccd cl outer) (call (.ref 42) [.ref l, .int n tn]) Q E s := by
  k_fill
  intro dp un gd cn cs a ccd cl outer A₀ base h₀ L m rest s l vs ns k n tn Q E B F X N T hk C37 hl37 hne hI hn hn2 hdig hpos h64 hd hu hret
  refine wpAny_call ?_
  k_dflt (first | (refine' code_nest ?k1 ?k2 ?k3 ?k4 ?k5 ?kA ?kF ?kK ?k6 ?k7 ?k8 ?k9 ?kB ?_ ?c2 ?c3 ?c4 ?c5; (case kA => exact rfl); (case kF => exact rfl); (case kK => first | exact rfl | assumption); (case k1 => k_asm); (case k2 => k_asm); (case k3 => k_asm); (case k4 => k_asm); (case k5 => k_asm); (case k6 => k_mem); (case k7 => exact codeRec_news (by k_asm) (by k_mem) (by assumption) (by assumption)); (case k8 => ktr_room); (case k9 => exact BindsTo.of_eq rfl); (case c5 => decide); (case kB => exact locs rfl); (case c2 => exact rfl); (case c3 => exact rfl); (case c4 => exact rfl); k_whole; intro g' L' h' FG' F' N' B' X' T'; (try dsimp only); (try k_lift B'); (try k_fold)) | (refine' code_defC ?k1 ?k2 ?k3 ?k4 ?k5 ?kA ?kF ?kK ?k6 ?k7 ?k8 ?k9 ?kB ?kD ?_ ?c2 ?c3 ?c4; (case kA => exact rfl); (case kF => exact rfl); (case kK => first | exact rfl | assumption); (case k1 => k_asm); (case k2 => k_asm); (case k3 => k_asm); (case k4 => k_asm); (case k5 => k_asm); (case k6 => k_is); (case k7 => k_is); (case k8 => ktr_room); (case k9 => exact BindsTo.of_eq rfl); (case kB => exact rfl); (case kD => decide +kernel); (case c2 => exact rfl); (case c3 => exact rfl); (case c4 => exact rfl); k_whole; intro g' L' h' tk' cells' FG' F' N' Y' B' X' T' l1; (try k_lt l1); k_cells Y'; (try simp only [List.cons_append, List.nil_append] at N'); (try dsimp only); (try k_lift B'); (try k_fold)) | ktr_enter)
  k_steps
  rename_i f' c' oc' vs' t' ct' dc' h1' tk1' d1' d2' l1' l2' h2' o2' F2' N2' d3'
  (rename News _ _ _ _ => N9)
  obtain ⟨NEWS, hN, N10⟩ := nameNews N9
  have key : ∀ (j : Nat) (lo hi : Int) (t1 t2 : Tok) (dp un : Nat) (gd : Option (List Code)) (cn : Str) (cs : Scope) (a : Addr) (ccd : Value) (cl : List (Str × Addr)) (outer : List Env) (A₀ : Around) (base h₀ : Heap) (L : Addr) (m : Str → Option Value) (s : Shared) (Q E : Value → Shared → Prop),
    Below A₀ base outer h₀ → Fr h₀ L s.heap m → (Mine.hd.heap_39 w.params).In h₀ → News h₀ L s.heap NEWS → Top VW LO mean mg mb h₀ → cs.kind = .function →
    0 ≤ lo → lo < hi → hi ≤ ns.length → hi - lo ≤ 2 ^ j → dp + j + 1 < recursionLimit → un + 8 * (j + 1) < cLine →
    (∀ h' t tk', Fr h₀ L h' m → News h₀ L h' NEWS → Q (.int (dsum n.toNat ((ns.drop lo.toNat).take (hi - lo).toNat)) t) { s with heap := h', toks := tk' }) →
    wpAny (model PySem.Challenge.rw_ph0116_01.row.prog w) (ktrTop dp un gd cn cs L a ccd cl outer) (call (.ref f') [.int lo t1, .int hi t2]) Q E s := by
    clear hret N9 N10 hd hu N F B X T
    subst hN
    intro j
    induction j with
    | zero =>
      intro lo hi t1 t2 dp un gd cn cs a ccd cl outer A₀ base h₀ L m s Q E B F X N T hk hlo hlt hhi hj hdp hun hret
      have hj1 : lo + 1 = hi := by simp at hj; omega
      have e2 : dsum n.toNat ((ns.drop lo.toNat).take (hi - lo).toNat) = ns.getD lo.toNat 0 := by
        rw [show (hi - lo).toNat = 1 from by omega, slice_one (by omega)]; simp [dsum]
      refine wpAny_call ?_
      k_dflt (first | (refine' code_nest ?k1 ?k2 ?k3 ?k4 ?k5 ?kA ?kF ?kK ?k6 ?k7 ?k8 ?k9 ?kB ?_ ?c2 ?c3 ?c4 ?c5; (case kA => exact rfl); (case kF => exact rfl); (case kK => first | exact rfl | assumption); (case k1 => k_asm); (case k2 => k_asm); (case k3 => k_asm); (case k4 => k_asm); (case k5 => k_asm); (case k6 => k_mem); (case k7 => exact codeRec_news (by k_asm) (by k_mem) (by assumption) (by assumption)); (case k8 => ktr_room); (case k9 => exact BindsTo.of_eq rfl); (case c5 => decide); (case kB => exact locs rfl); (case c2 => exact rfl); (case c3 => exact rfl); (case c4 => exact rfl); k_whole; intro g' L' h' FG' F' N' B' X' T'; (try dsimp only); (try k_lift B'); (try k_fold)) | (refine' code_defC ?k1 ?k2 ?k3 ?k4 ?k5 ?kA ?kF ?kK ?k6 ?k7 ?k8 ?k9 ?kB ?kD ?_ ?c2 ?c3 ?c4; (case kA => exact rfl); (case kF => exact rfl); (case kK => first | exact rfl | assumption); (case k1 => k_asm); (case k2 => k_asm); (case k3 => k_asm); (case k4 => k_asm); (case k5 => k_asm); (case k6 => k_is); (case k7 => k_is); (case k8 => ktr_room); (case k9 => exact BindsTo.of_eq rfl); (case kB => exact rfl); (case kD => decide +kernel); (case c2 => exact rfl); (case c3 => exact rfl); (case c4 => exact rfl); k_whole; intro g' L' h' tk' cells' FG' F' N' Y' B' X' T' l1; (try k_lt l1); k_cells Y'; (try simp only [List.cons_append, List.nil_append] at N'); (try dsimp only); (try k_lift B'); (try k_fold)) | ktr_enter)
      k_steps
      · rw [← e2]
        exact hret _ _ _ (by k_asm) (by k_asm)
    | succ j ih =>
      intro lo hi t1 t2 dp un gd cn cs a ccd cl outer A₀ base h₀ L m s Q E B F X N T hk hlo hlt hhi hj hdp hun hret
      refine wpAny_call ?_
      k_dflt (first | (refine' code_nest ?k1 ?k2 ?k3 ?k4 ?k5 ?kA ?kF ?kK ?k6 ?k7 ?k8 ?k9 ?kB ?_ ?c2 ?c3 ?c4 ?c5; (case kA => exact rfl); (case kF => exact rfl); (case kK => first | exact rfl | assumption); (case k1 => k_asm); (case k2 => k_asm); (case k3 => k_asm); (case k4 => k_asm); (case k5 => k_asm); (case k6 => k_mem); (case k7 => exact codeRec_news (by k_asm) (by k_mem) (by assumption) (by assumption)); (case k8 => ktr_room); (case k9 => exact BindsTo.of_eq rfl); (case c5 => decide); (case kB => exact locs rfl); (case c2 => exact rfl); (case c3 => exact rfl); (case c4 => exact rfl); k_whole; intro g' L' h' FG' F' N' B' X' T'; (try dsimp only); (try k_lift B'); (try k_fold)) | (refine' code_defC ?k1 ?k2 ?k3 ?k4 ?k5 ?kA ?kF ?kK ?k6 ?k7 ?k8 ?k9 ?kB ?kD ?_ ?c2 ?c3 ?c4; (case kA => exact rfl); (case kF => exact rfl); (case kK => first | exact rfl | assumption); (case k1 => k_asm); (case k2 => k_asm); (case k3 => k_asm); (case k4 => k_asm); (case k5 => k_asm); (case k6 => k_is); (case k7 => k_is); (case k8 => ktr_room); (case k9 => exact BindsTo.of_eq rfl); (case kB => exact rfl); (case kD => decide +kernel); (case c2 => exact rfl); (case c3 => exact rfl); (case c4 => exact rfl); k_whole; intro g' L' h' tk' cells' FG' F' N' Y' B' X' T' l1; (try k_lt l1); k_cells Y'; (try simp only [List.cons_append, List.nil_append] at N'); (try dsimp only); (try k_lift B'); (try k_fold)) | ktr_enter)
      k_steps
      · have e2 : dsum n.toNat ((ns.drop lo.toNat).take (hi - lo).toNat) = ns.getD lo.toNat 0 := by
          rw [show (hi - lo).toNat = 1 from by omega, slice_one (by omega)]; simp [dsum]
        rw [← e2]
        exact hret _ _ _ (by k_asm) (by k_asm)
      · have hm := mid_facts hlt (by assumption) hj
        have hnn : ((n.toNat : Nat) : Int) = n := by omega
        k_dflt (refine' ih _ _ _ _ _ _ _ _ _ _ _ _ _ _ _ _ _ _ _ _ _ ?b1 ?b2 ?b3 ?b4 ?b5 ?b6 ?b7 ?b8 ?b9 ?b10 ?b11 ?b12 ?_)
        case b1 => k_asm
        case b2 => k_asm
        case b3 => k_asm
        case b4 => k_asm
        case b5 => k_asm
        case b6 => exact rfl
        case b7 => omega
        case b8 => omega
        case b9 => omega
        case b10 => omega
        case b11 => first | omega | ktr_room
        case b12 => first | omega | ktr_units
        intro h9 t9 tk9 F9 N9
        have hb1 := dsum_bits (n := n.toNat) (k := 6400000) (l := (ns.drop ((lo + hi).fdiv (2 ^ Int.toNat 1)).toNat).take (hi - (lo + hi).fdiv (2 ^ Int.toNat 1)).toNat) (fun d hd => hdig d (slice_mem hd)) (by
          rw [slice_len (by omega)]
          exact Nat.le_trans (Nat.mul_le_mul (by omega : n.toNat ≤ 100000) (by omega : _ ≤ 64)) (by decide))
        have hs1 : 0 ≤ ((lo + hi).fdiv (2 ^ Int.toNat 1) - lo) * n := Int.mul_nonneg (by omega) hn
        have hs2 : ((lo + hi).fdiv (2 ^ Int.toNat 1) - lo) * n ≤ 64 * 100000 := Int.mul_le_mul (by omega) hn2 hn (by decide)
        have hs3 := Int.le_trans (Int.add_le_add (Int.ofNat_le.mpr hb1) hs2) (by decide : ((6400000 : Nat) : Int) + 64 * 100000 ≤ 2 ^ 27)
        k_steps
        k_dflt (refine' ih _ _ _ _ _ _ _ _ _ _ _ _ _ _ _ _ _ _ _ _ _ ?b1 ?b2 ?b3 ?b4 ?b5 ?b6 ?b7 ?b8 ?b9 ?b10 ?b11 ?b12 ?_)
        case b1 => k_asm
        case b2 => k_asm
        case b3 => k_asm
        case b4 => k_asm
        case b5 => k_asm
        case b6 => exact rfl
        case b7 => omega
        case b8 => omega
        case b9 => omega
        case b10 => omega
        case b11 => first | omega | ktr_room
        case b12 => first | omega | ktr_units
        intro h9 t9 tk9 F9 N9
        k_steps
        have e := slice_join (n := n.toNat) (ns := ns) (lo := lo) (mid := (lo + hi).fdiv (2 ^ Int.toNat 1)) (hi := hi) hlo (by omega) (by omega) hhi
        rw [hnn] at e
        rw [e]
        exact hret _ _ _ (by k_asm) (by k_asm)
  have h64' : (ns.length : Int) - 0 ≤ 2 ^ 6 := by omega
  k_dflt (refine' key 6 _ _ _ _ _ _ _ _ _ _ _ _ _ _ _ _ _ _ _ _ _ ?b1 ?b2 ?b3 N10 ?b5 ?b6 ?b7 ?b8 ?b9 h64' ?b11 ?b12 ?_)
  case b1 => k_asm
  case b2 => k_asm
  case b3 => k_asm
  case b5 => k_asm
  case b6 => exact rfl
  case b7 => omega
  case b8 => omega
  case b9 => omega
  case b11 => first | omega | ktr_room
  case b12 => first | omega | ktr_units
  intro h9 t9 tk9 F9 N11
  rw [show (ns.drop (0 : Int).toNat).take ((ns.length : Int) - 0).toNat = ns from by simp]
  subst hN
  k_steps
  (rename News h₀ L _ _ => kN)
  refine hret c' oc' vs' t' _ _ _ d1' d2' (by intro q hq; rcases List.mem_cons.mp hq with rfl | hq; exact l1'.2.2.2.2.1; exact ktn_ltOf l1'.2.2.2.2.2 q hq) l1'.2.2.2.1 (by k_asm) (News.sub kN ?_)
  refine List.forall_mem_cons.mpr ⟨?m1, List.forall_mem_cons.mpr ⟨?m2, List.forall_mem_cons.mpr ⟨?m3, ?m4⟩⟩⟩
  case m1 => k_mem
  case m2 => k_mem
  case m3 => k_mem
  case m4 => exact fun p hp => .tail _ (.tail _ (.tail _ (.tail _ (.tail _ (.tail _ (.tail _ hp))))))
theorem d2i_hit (w : World) (mean : ExcName → Option Value) (mg mb : Str → Option Value) :
  ∀ (dp un : Nat) (gd : Option (List Code)) (cn : Str) (cs : Scope) (a : Addr) (ccd : Value) (cl : List (Str × Addr)) (outer : List Env) (A₀ : Around) (base h₀ : Heap) (L : Addr) (m : Str → Option Value) (rest : List (Addr × Obj)) (s : Shared) (l : Addr) (vs : List Value) (ns : List Int) (k : Nat) (n : Int) (tn : Tok) (cc : Addr) (occ : Obj) (vcc : Array Value) (tcc : Tok)
    (Q E : Value → Shared → Prop),
    Below A₀ base outer h₀ → Fr h₀ L s.heap m → (Mine.hd.heap_39 w.params).In h₀ → News h₀ L s.heap ((37, tabObj #[rawInt 47, rawInt 4, .ref cc]) :: (cc, occ) :: (l, listOf vs.toArray k) :: rest) → Top VW LO mean mg mb h₀ → cs.kind = .function → CodeHd base 41 37 →
    l ≠ 37 → (∀ q ∈ rest, q.1 ≠ 37) → IntsAre vs ns → 0 ≤ n → n ≤ 100000 → (∀ d ∈ ns, 0 ≤ d ∧ d < 2 ^ n.toNat) → 0 < ns.length → ns.length ≤ 64 → occ.data = .fields vcc → vcc[1]? = some (.str (Str.ofString "_digits2int.<locals>.inner") tcc) → cc ≠ 37 →
    dp + 10 < recursionLimit → un + 80 < cLine →
    (∀ h' t tk', Fr h₀ L h' m → News h₀ L h' ((37, tabObj #[rawInt 47, rawInt 4, .ref cc]) :: (cc, occ) :: (l, listOf vs.toArray k) :: rest) → Q (.int (dsum n.toNat ns) t) { s with heap := h', toks := tk' }) →
    wpAny (model PySem.Challenge.rw_ph0116_01.row.prog w) (ktrTop dp un gd cn cs L a ccd cl outer) (call (.ref 42) [.ref l, .int n tn]) Q E s := by
  k_fill
  intro dp un gd cn cs a ccd cl outer A₀ base h₀ L m rest s l vs ns k n tn cc occ vcc tcc Q E B F X N T hk C37 hl37 hne hI hn hn2 hdig hpos h64 hcc1 hcc2 hcc3 hd hu hret
  refine wpAny_call ?_
  k_dflt (first | (refine' code_nest ?k1 ?k2 ?k3 ?k4 ?k5 ?kA ?kF ?kK ?k6 ?k7 ?k8 ?k9 ?kB ?_ ?c2 ?c3 ?c4 ?c5; (case kA => exact rfl); (case kF => exact rfl); (case kK => first | exact rfl | assumption); (case k1 => k_asm); (case k2 => k_asm); (case k3 => k_asm); (case k4 => k_asm); (case k5 => k_asm); (case k6 => k_mem); (case k7 => exact codeRec_news (by k_asm) (by k_mem) (by assumption) (by assumption)); (case k8 => ktr_room); (case k9 => exact BindsTo.of_eq rfl); (case c5 => decide); (case kB => exact locs rfl); (case c2 => exact rfl); (case c3 => exact rfl); (case c4 => exact rfl); k_whole; intro g' L' h' FG' F' N' B' X' T'; (try dsimp only); (try k_lift B'); (try k_fold)) | (refine' code_defC ?k1 ?k2 ?k3 ?k4 ?k5 ?kA ?kF ?kK ?k6 ?k7 ?k8 ?k9 ?kB ?kD ?_ ?c2 ?c3 ?c4; (case kA => exact rfl); (case kF => exact rfl); (case kK => first | exact rfl | assumption); (case k1 => k_asm); (case k2 => k_asm); (case k3 => k_asm); (case k4 => k_asm); (case k5 => k_asm); (case k6 => k_is); (case k7 => k_is); (case k8 => ktr_room); (case k9 => exact BindsTo.of_eq rfl); (case kB => exact rfl); (case kD => decide +kernel); (case c2 => exact rfl); (case c3 => exact rfl); (case c4 => exact rfl); k_whole; intro g' L' h' tk' cells' FG' F' N' Y' B' X' T' l1; (try k_lt l1); k_cells Y'; (try simp only [List.cons_append, List.nil_append] at N'); (try dsimp only); (try k_lift B'); (try k_fold)) | ktr_enter)
  k_steps
  rename_i f' ct' dc' h1' tk1' l1' h2' o2' F2' N2' d3'
  (rename News _ _ _ _ => N9)
  obtain ⟨NEWS, hN, N10⟩ := nameNews N9
  have key : ∀ (j : Nat) (lo hi : Int) (t1 t2 : Tok) (dp un : Nat) (gd : Option (List Code)) (cn : Str) (cs : Scope) (a : Addr) (ccd : Value) (cl : List (Str × Addr)) (outer : List Env) (A₀ : Around) (base h₀ : Heap) (L : Addr) (m : Str → Option Value) (s : Shared) (Q E : Value → Shared → Prop),
    Below A₀ base outer h₀ → Fr h₀ L s.heap m → (Mine.hd.heap_39 w.params).In h₀ → News h₀ L s.heap NEWS → Top VW LO mean mg mb h₀ → cs.kind = .function →
    0 ≤ lo → lo < hi → hi ≤ ns.length → hi - lo ≤ 2 ^ j → dp + j + 1 < recursionLimit → un + 8 * (j + 1) < cLine →
    (∀ h' t tk', Fr h₀ L h' m → News h₀ L h' NEWS → Q (.int (dsum n.toNat ((ns.drop lo.toNat).take (hi - lo).toNat)) t) { s with heap := h', toks := tk' }) →
    wpAny (model PySem.Challenge.rw_ph0116_01.row.prog w) (ktrTop dp un gd cn cs L a ccd cl outer) (call (.ref f') [.int lo t1, .int hi t2]) Q E s := by
    clear hret N9 N10 hd hu N F B X T
    subst hN
    intro j
    induction j with
    | zero =>
      intro lo hi t1 t2 dp un gd cn cs a ccd cl outer A₀ base h₀ L m s Q E B F X N T hk hlo hlt hhi hj hdp hun hret
      have hj1 : lo + 1 = hi := by simp at hj; omega
      have e2 : dsum n.toNat ((ns.drop lo.toNat).take (hi - lo).toNat) = ns.getD lo.toNat 0 := by
        rw [show (hi - lo).toNat = 1 from by omega, slice_one (by omega)]; simp [dsum]
      refine wpAny_call ?_
      k_dflt (first | (refine' code_nest ?k1 ?k2 ?k3 ?k4 ?k5 ?kA ?kF ?kK ?k6 ?k7 ?k8 ?k9 ?kB ?_ ?c2 ?c3 ?c4 ?c5; (case kA => exact rfl); (case kF => exact rfl); (case kK => first | exact rfl | assumption); (case k1 => k_asm); (case k2 => k_asm); (case k3 => k_asm); (case k4 => k_asm); (case k5 => k_asm); (case k6 => k_mem); (case k7 => exact codeRec_news (by k_asm) (by k_mem) (by assumption) (by assumption)); (case k8 => ktr_room); (case k9 => exact BindsTo.of_eq rfl); (case c5 => decide); (case kB => exact locs rfl); (case c2 => exact rfl); (case c3 => exact rfl); (case c4 => exact rfl); k_whole; intro g' L' h' FG' F' N' B' X' T'; (try dsimp only); (try k_lift B'); (try k_fold)) | (refine' code_defC ?k1 ?k2 ?k3 ?k4 ?k5 ?kA ?kF ?kK ?k6 ?k7 ?k8 ?k9 ?kB ?kD ?_ ?c2 ?c3 ?c4; (case kA => exact rfl); (case kF => exact rfl); (case kK => first | exact rfl | assumption); (case k1 => k_asm); (case k2 => k_asm); (case k3 => k_asm); (case k4 => k_asm); (case k5 => k_asm); (case k6 => k_is); (case k7 => k_is); (case k8 => ktr_room); (case k9 => exact BindsTo.of_eq rfl); (case kB => exact rfl); (case kD => decide +kernel); (case c2 => exact rfl); (case c3 => exact rfl); (case c4 => exact rfl); k_whole; intro g' L' h' tk' cells' FG' F' N' Y' B' X' T' l1; (try k_lt l1); k_cells Y'; (try simp only [List.cons_append, List.nil_append] at N'); (try dsimp only); (try k_lift B'); (try k_fold)) | ktr_enter)
      k_steps
      · rw [← e2]
        exact hret _ _ _ (by k_asm) (by k_asm)
    | succ j ih =>
      intro lo hi t1 t2 dp un gd cn cs a ccd cl outer A₀ base h₀ L m s Q E B F X N T hk hlo hlt hhi hj hdp hun hret
      refine wpAny_call ?_
      k_dflt (first | (refine' code_nest ?k1 ?k2 ?k3 ?k4 ?k5 ?kA ?kF ?kK ?k6 ?k7 ?k8 ?k9 ?kB ?_ ?c2 ?c3 ?c4 ?c5; (case kA => exact rfl); (case kF => exact rfl); (case kK => first | exact rfl | assumption); (case k1 => k_asm); (case k2 => k_asm); (case k3 => k_asm); (case k4 => k_asm); (case k5 => k_asm); (case k6 => k_mem); (case k7 => exact codeRec_news (by k_asm) (by k_mem) (by assumption) (by assumption)); (case k8 => ktr_room); (case k9 => exact BindsTo.of_eq rfl); (case c5 => decide); (case kB => exact locs rfl); (case c2 => exact rfl); (case c3 => exact rfl); (case c4 => exact rfl); k_whole; intro g' L' h' FG' F' N' B' X' T'; (try dsimp only); (try k_lift B'); (try k_fold)) | (refine' code_defC ?k1 ?k2 ?k3 ?k4 ?k5 ?kA ?kF ?kK ?k6 ?k7 ?k8 ?k9 ?kB ?kD ?_ ?c2 ?c3 ?c4; (case kA => exact rfl); (case kF => exact rfl); (case kK => first | exact rfl | assumption); (case k1 => k_asm); (case k2 => k_asm); (case k3 => k_asm); (case k4 => k_asm); (case k5 => k_asm); (case k6 => k_is); (case k7 => k_is); (case k8 => ktr_room); (case k9 => exact BindsTo.of_eq rfl); (case kB => exact rfl); (case kD => decide +kernel); (case c2 => exact rfl); (case c3 => exact rfl); (case c4 => exact rfl); k_whole; intro g' L' h' tk' cells' FG' F' N' Y' B' X' T' l1; (try k_lt l1); k_cells Y'; (try simp only [List.cons_append, List.nil_append] at N'); (try dsimp only); (try k_lift B'); (try k_fold)) | ktr_enter)
      k_steps
      · have e2 : dsum n.toNat ((ns.drop lo.toNat).take (hi - lo).toNat) = ns.getD lo.toNat 0 := by
          rw [show (hi - lo).toNat = 1 from by omega, slice_one (by omega)]; simp [dsum]
        rw [← e2]
        exact hret _ _ _ (by k_asm) (by k_asm)
      · have hm := mid_facts hlt (by assumption) hj
        have hnn : ((n.toNat : Nat) : Int) = n := by omega
        k_dflt (refine' ih _ _ _ _ _ _ _ _ _ _ _ _ _ _ _ _ _ _ _ _ _ ?b1 ?b2 ?b3 ?b4 ?b5 ?b6 ?b7 ?b8 ?b9 ?b10 ?b11 ?b12 ?_)
        case b1 => k_asm
        case b2 => k_asm
        case b3 => k_asm
        case b4 => k_asm
        case b5 => k_asm
        case b6 => exact rfl
        case b7 => omega
        case b8 => omega
        case b9 => omega
        case b10 => omega
        case b11 => first | omega | ktr_room
        case b12 => first | omega | ktr_units
        intro h9 t9 tk9 F9 N9
        have hb1 := dsum_bits (n := n.toNat) (k := 6400000) (l := (ns.drop ((lo + hi).fdiv (2 ^ Int.toNat 1)).toNat).take (hi - (lo + hi).fdiv (2 ^ Int.toNat 1)).toNat) (fun d hd => hdig d (slice_mem hd)) (by
          rw [slice_len (by omega)]
          exact Nat.le_trans (Nat.mul_le_mul (by omega : n.toNat ≤ 100000) (by omega : _ ≤ 64)) (by decide))
        have hs1 : 0 ≤ ((lo + hi).fdiv (2 ^ Int.toNat 1) - lo) * n := Int.mul_nonneg (by omega) hn
        have hs2 : ((lo + hi).fdiv (2 ^ Int.toNat 1) - lo) * n ≤ 64 * 100000 := Int.mul_le_mul (by omega) hn2 hn (by decide)
        have hs3 := Int.le_trans (Int.add_le_add (Int.ofNat_le.mpr hb1) hs2) (by decide : ((6400000 : Nat) : Int) + 64 * 100000 ≤ 2 ^ 27)
        k_steps
        k_dflt (refine' ih _ _ _ _ _ _ _ _ _ _ _ _ _ _ _ _ _ _ _ _ _ ?b1 ?b2 ?b3 ?b4 ?b5 ?b6 ?b7 ?b8 ?b9 ?b10 ?b11 ?b12 ?_)
        case b1 => k_asm
        case b2 => k_asm
        case b3 => k_asm
        case b4 => k_asm
        case b5 => k_asm
        case b6 => exact rfl
        case b7 => omega
        case b8 => omega
        case b9 => omega
        case b10 => omega
        case b11 => first | omega | ktr_room
        case b12 => first | omega | ktr_units
        intro h9 t9 tk9 F9 N9
        k_steps
        have e := slice_join (n := n.toNat) (ns := ns) (lo := lo) (mid := (lo + hi).fdiv (2 ^ Int.toNat 1)) (hi := hi) hlo (by omega) (by omega) hhi
        rw [hnn] at e
        rw [e]
        exact hret _ _ _ (by k_asm) (by k_asm)
  have h64' : (ns.length : Int) - 0 ≤ 2 ^ 6 := by omega
  k_dflt (refine' key 6 _ _ _ _ _ _ _ _ _ _ _ _ _ _ _ _ _ _ _ _ _ ?b1 ?b2 ?b3 N10 ?b5 ?b6 ?b7 ?b8 ?b9 h64' ?b11 ?b12 ?_)
  case b1 => k_asm
  case b2 => k_asm
  case b3 => k_asm
  case b5 => k_asm
  case b6 => exact rfl
  case b7 => omega
  case b8 => omega
  case b9 => omega
  case b11 => first | omega | ktr_room
  case b12 => first | omega | ktr_units
  intro h9 t9 tk9 F9 N11
  rw [show (ns.drop (0 : Int).toNat).take ((ns.length : Int) - 0).toNat = ns from by simp]
  subst hN
  k_steps
  (rename News h₀ L _ _ => kN)
  refine hret _ _ _ (by k_asm) (News.sub kN fun p hp => .tail _ (.tail _ (.tail _ (.tail _ hp))))
end
section
theorem off_C3 : True := by
  w_top off
  trivial
open PySem PySem.W PySem.Spec PySem.Calls PyProof.Rows
set_option Elab.async false
set_option maxRecDepth 100000
set_option maxHeartbeats 8000000
theorem bring3 {h₀ h : Heap} {L : Addr} {a b c : Addr × Obj} {r : List (Addr × Obj)} (N : News h₀ L h (a :: b :: c :: r)) : ∃ R, R = a :: b :: r ∧ News h₀ L h (c :: R) :=
  ⟨_, rfl, News.sub N (List.forall_mem_cons.mpr ⟨.tail _ (.tail _ (.head _)), List.forall_mem_cons.mpr ⟨.head _, List.forall_mem_cons.mpr ⟨.tail _ (.head _), fun _ h => .tail _ (.tail _ (.tail _ h))⟩⟩⟩)⟩
theorem bring2 {h₀ h : Heap} {L : Addr} {a c : Addr × Obj} {r : List (Addr × Obj)} (N : News h₀ L h (a :: c :: r)) : ∃ R, R = a :: r ∧ News h₀ L h (c :: R) :=
  ⟨_, rfl, News.sub N (List.forall_mem_cons.mpr ⟨.tail _ (.head _), List.forall_mem_cons.mpr ⟨.head _, fun _ h => .tail _ (.tail _ h)⟩⟩)⟩
theorem i2d_first (w : World) (mean : ExcName → Option Value) (mg mb : Str → Option Value) :
  ∀ (dp un : Nat) (gd : Option (List Code)) (cn : Str) (cs : Scope) (a : Addr) (ccd : Value) (cl : List (Str × Addr)) (outer : List Env) (A₀ : Around) (base h₀ : Heap) (L : Addr) (m : Str → Option Value) (rest : List (Addr × Obj)) (s : Shared) (x n : Int) (tx tn : Tok)
    (Q E : Value → Shared → Prop),
    Below A₀ base outer h₀ → Fr h₀ L s.heap m → (Mine.hd.heap_39 w.params).In h₀ → News h₀ L s.heap ((30, tabObj #[]) :: rest) → Top VW LO mean mg mb h₀ → cs.kind = .function → CodeHd base 34 30 →
    (∀ q ∈ rest, q.1 ≠ 30) → 0 ≤ x → 0 < n → n ≤ 100000 → x < 2 ^ (64 * n.toNat) →
    dp + 10 < recursionLimit → un + 80 < cLine →
    (∀ c' oc' voc' t' l' vs' k' h' tk', oc'.data = .fields voc' → voc'[1]? = some (.str (Str.ofString "_int2digits.<locals>.inner") t') → (∀ q ∈ rest, q.1 < c') → 30 < c' → (∀ q ∈ rest, q.1 < l') → 30 < l' → l' ≠ c' → Fr h₀ L h' m → News h₀ L h' ((l', listOf vs'.toArray k') :: (30, tabObj #[rawInt 32, rawInt 4, .ref c']) :: (c', oc') :: rest) → IntsAre vs' (digs n.toNat (ndig n.toNat x) x) → Q (.ref l') { s with heap := h', toks := tk' }) →
    wpAny (model PySem.Challenge.rw_ph0116_01.row.prog w) (ktrTop dp un gd cn cs L a ccd cl outer) (call (.ref 35) [.int x tx, .int n tn]) Q E s := by
  k_fill
  intro dp un gd cn cs a ccd cl outer A₀ base h₀ L m rest s x n tx tn Q E B F X N T hk C30 hne hx hn hn2 hx2 hd hu hret
  have hbt := bits_pow hx hx2
  have hE := ndig_eq (x := x) hn
  have hD : ndig n.toNat x ≤ 64 := ndig_le (by omega) hbt
  have hE0 : 0 ≤ ((Builtin.Int.intBits x : Int) + n - 1).fdiv n := by rw [hE]; omega
  have hE1 : ((Builtin.Int.intBits x : Int) + n - 1).fdiv n ≤ 64 := by rw [hE]; omega
  refine wpAny_call ?_
  k_dflt (first | (refine' code_nest ?k1 ?k2 ?k3 ?k4 ?k5 ?kA ?kF ?kK ?k6 ?k7 ?k8 ?k9 ?kB ?_ ?c2 ?c3 ?c4 ?c5; (case kA => exact rfl); (case kF => exact rfl); (case kK => first | exact rfl | assumption); (case k1 => k_asm); (case k2 => k_asm); (case k3 => k_asm); (case k4 => k_asm); (case k5 => k_asm); (case k6 => k_mem); (case k7 => exact codeRec_news (by k_asm) (by k_mem) (by assumption) (by assumption)); (case k8 => ktr_room); (case k9 => exact BindsTo.of_eq rfl); (case c5 => decide); (case kB => exact locs rfl); (case c2 => exact rfl); (case c3 => exact rfl); (case c4 => exact rfl); k_whole; intro g' L' h' FG' F' N' B' X' T'; (try dsimp only); (try k_lift B'); (try k_fold)) | (refine' code_defC ?k1 ?k2 ?k3 ?k4 ?k5 ?kA ?kF ?kK ?k6 ?k7 ?k8 ?k9 ?kB ?kD ?_ ?c2 ?c3 ?c4; (case kA => exact rfl); (case kF => exact rfl); (case kK => first | exact rfl | assumption); (case k1 => k_asm); (case k2 => k_asm); (case k3 => k_asm); (case k4 => k_asm); (case k5 => k_asm); (case k6 => k_is); (case k7 => k_is); (case k8 => ktr_room); (case k9 => exact BindsTo.of_eq rfl); (case kB => exact rfl); (case kD => decide +kernel); (case c2 => exact rfl); (case c3 => exact rfl); (case c4 => exact rfl); k_whole; intro g' L' h' tk' cells' FG' F' N' Y' B' X' T' l1; (try k_lt l1); k_cells Y'; (try simp only [List.cons_append, List.nil_append] at N'); (try dsimp only); (try k_lift B'); (try k_fold)) | ktr_enter)
  k_steps
  · rename_i D' hD' i1 n1 s1 e1 e2 e3 lD' h1' o1' d1' f' c' oc' voc' t' ct' dc' h2' tk2' d2' d3' l1' l2' h3' o3' F3' N3' d4' hnz
    (rename News _ _ _ _ => N9)
    have hn1 : n1 = ndig n.toNat x := by
      rw [← e1, hE, Int.toNat_natCast, zeros_digs n.toNat, digs_length]
    obtain ⟨REST, hR, N10⟩ := bring3 N9
    have key : ∀ (j : Nat) (x lo hi : Int) (vs : List Value) (ns : List Int) (t0 t1 t2 : Tok) (dp un : Nat) (gd : Option (List Code)) (cn : Str) (cs : Scope) (a : Addr) (ccd : Value) (cl : List (Str × Addr)) (outer : List Env) (A₀ : Around) (base h₀ : Heap) (L : Addr) (m : Str → Option Value) (s : Shared) (Q E : Value → Shared → Prop),
      Below A₀ base outer h₀ → Fr h₀ L s.heap m → (Mine.hd.heap_39 w.params).In h₀ → News h₀ L s.heap ((D', listOf vs.toArray 0) :: REST) → Top VW LO mean mg mb h₀ → cs.kind = .function → IntsAre vs ns →
      0 ≤ lo → lo < hi → hi ≤ ns.length → ns.length ≤ 64 → hi - lo ≤ 2 ^ j → 0 ≤ x → x < 2 ^ (n.toNat * (hi - lo).toNat) → dp + j + 1 < recursionLimit → un + 8 * (j + 1) < cLine →
      (∀ vs' h' tk', Fr h₀ L h' m → News h₀ L h' ((D', listOf vs'.toArray 0) :: REST) → IntsAre vs' (ns.take lo.toNat ++ digs n.toNat (hi - lo).toNat x ++ ns.drop hi.toNat) → Q .none { s with heap := h', toks := tk' }) →
      wpAny (model PySem.Challenge.rw_ph0116_01.row.prog w) (ktrTop dp un gd cn cs L a ccd cl outer) (call (.ref f') [.int x t0, .int lo t1, .int hi t2]) Q E s := by
      clear hret N9 N10 hd hu N F B X T hx hx2 hbt hE hD hE0 hE1 i1 s1 e1 e2 e3 hn1 hnz
      subst hR
      intro j
      induction j with
      | zero =>
        intro x lo hi vs ns t0 t1 t2 dp un gd cn cs a ccd cl outer A₀ base h₀ L m s Q E B F X N T hk hI hlo hlt hhi h64 hj hx hx2 hdp hun hret
        have hj1 : lo + 1 = hi := by simp at hj; omega
        refine wpAny_call ?_
        k_dflt (first | (refine' code_nest ?k1 ?k2 ?k3 ?k4 ?k5 ?kA ?kF ?kK ?k6 ?k7 ?k8 ?k9 ?kB ?_ ?c2 ?c3 ?c4 ?c5; (case kA => exact rfl); (case kF => exact rfl); (case kK => first | exact rfl | assumption); (case k1 => k_asm); (case k2 => k_asm); (case k3 => k_asm); (case k4 => k_asm); (case k5 => k_asm); (case k6 => k_mem); (case k7 => exact codeRec_news (by k_asm) (by k_mem) (by assumption) (by assumption)); (case k8 => ktr_room); (case k9 => exact BindsTo.of_eq rfl); (case c5 => decide); (case kB => exact locs rfl); (case c2 => exact rfl); (case c3 => exact rfl); (case c4 => exact rfl); k_whole; intro g' L' h' FG' F' N' B' X' T'; (try dsimp only); (try k_lift B'); (try k_fold)) | (refine' code_defC ?k1 ?k2 ?k3 ?k4 ?k5 ?kA ?kF ?kK ?k6 ?k7 ?k8 ?k9 ?kB ?kD ?_ ?c2 ?c3 ?c4; (case kA => exact rfl); (case kF => exact rfl); (case kK => first | exact rfl | assumption); (case k1 => k_asm); (case k2 => k_asm); (case k3 => k_asm); (case k4 => k_asm); (case k5 => k_asm); (case k6 => k_is); (case k7 => k_is); (case k8 => ktr_room); (case k9 => exact BindsTo.of_eq rfl); (case kB => exact rfl); (case kD => decide +kernel); (case c2 => exact rfl); (case c3 => exact rfl); (case c4 => exact rfl); k_whole; intro g' L' h' tk' cells' FG' F' N' Y' B' X' T' l1; (try k_lt l1); k_cells Y'; (try simp only [List.cons_append, List.nil_append] at N'); (try dsimp only); (try k_lift B'); (try k_fold)) | ktr_enter)
        k_steps
        · refine hret _ _ _ (by k_asm) (by k_asm) ?_
          rw [show (hi - lo).toNat = 1 from by omega] at hx2 ⊢
          rw [digs_one hx (by simpa using hx2), show hi.toNat = lo.toNat + 1 from by omega, ← set_slice (by omega)]
          assumption
      | succ j ih =>
        intro x lo hi vs ns t0 t1 t2 dp un gd cn cs a ccd cl outer A₀ base h₀ L m s Q E B F X N T hk hI hlo hlt hhi h64 hj hx hx2 hdp hun hret
        by_cases hj1 : lo + 1 = hi
        · refine wpAny_call ?_
          k_dflt (first | (refine' code_nest ?k1 ?k2 ?k3 ?k4 ?k5 ?kA ?kF ?kK ?k6 ?k7 ?k8 ?k9 ?kB ?_ ?c2 ?c3 ?c4 ?c5; (case kA => exact rfl); (case kF => exact rfl); (case kK => first | exact rfl | assumption); (case k1 => k_asm); (case k2 => k_asm); (case k3 => k_asm); (case k4 => k_asm); (case k5 => k_asm); (case k6 => k_mem); (case k7 => exact codeRec_news (by k_asm) (by k_mem) (by assumption) (by assumption)); (case k8 => ktr_room); (case k9 => exact BindsTo.of_eq rfl); (case c5 => decide); (case kB => exact locs rfl); (case c2 => exact rfl); (case c3 => exact rfl); (case c4 => exact rfl); k_whole; intro g' L' h' FG' F' N' B' X' T'; (try dsimp only); (try k_lift B'); (try k_fold)) | (refine' code_defC ?k1 ?k2 ?k3 ?k4 ?k5 ?kA ?kF ?kK ?k6 ?k7 ?k8 ?k9 ?kB ?kD ?_ ?c2 ?c3 ?c4; (case kA => exact rfl); (case kF => exact rfl); (case kK => first | exact rfl | assumption); (case k1 => k_asm); (case k2 => k_asm); (case k3 => k_asm); (case k4 => k_asm); (case k5 => k_asm); (case k6 => k_is); (case k7 => k_is); (case k8 => ktr_room); (case k9 => exact BindsTo.of_eq rfl); (case kB => exact rfl); (case kD => decide +kernel); (case c2 => exact rfl); (case c3 => exact rfl); (case c4 => exact rfl); k_whole; intro g' L' h' tk' cells' FG' F' N' Y' B' X' T' l1; (try k_lt l1); k_cells Y'; (try simp only [List.cons_append, List.nil_append] at N'); (try dsimp only); (try k_lift B'); (try k_fold)) | ktr_enter)
          k_steps
          · refine hret _ _ _ (by k_asm) (by k_asm) ?_
            rw [show (hi - lo).toNat = 1 from by omega] at hx2 ⊢
            rw [digs_one hx (by simpa using hx2), show hi.toNat = lo.toNat + 1 from by omega, ← set_slice (by omega)]
            assumption
        · have hm := mid_facts hlt hj1 hj
          have hs1 : 0 ≤ ((lo + hi).fdiv (2 ^ Int.toNat 1) - lo) * n := Int.mul_nonneg (by omega) (by omega)
          have hs2 : ((lo + hi).fdiv (2 ^ Int.toNat 1) - lo) * n ≤ 64 * 100000 := Int.mul_le_mul (by omega) hn2 (by omega) (by decide)
          have hbx := Nat.le_trans (bits_pow hx hx2) (Nat.le_trans (Nat.mul_le_mul (by omega : n.toNat ≤ 100000) (by omega : (hi - lo).toNat ≤ 64)) (by decide : 100000 * 64 ≤ 6400000))
          have hb3 : Builtin.Int.intBits (x.fdiv (2 ^ ((((lo + hi).fdiv (2 ^ Int.toNat 1)) - lo) * n).toNat)) ≤ 6400000 := intBits_fdiv_le hbx
          have hs3 := Int.le_trans (Int.add_le_add (Int.ofNat_le.mpr hb3) hs2) (by decide : ((6400000 : Nat) : Int) + 64 * 100000 ≤ 2 ^ 27)
          have hsh : ((((lo + hi).fdiv (2 ^ Int.toNat 1)) - lo) * n).toNat = n.toNat * (((lo + hi).fdiv (2 ^ Int.toNat 1)) - lo).toNat := sh_eq (by omega) (by omega)
          have hup : x.fdiv (2 ^ ((((lo + hi).fdiv (2 ^ Int.toNat 1)) - lo) * n).toNat) = x / 2 ^ (n.toNat * (((lo + hi).fdiv (2 ^ Int.toNat 1)) - lo).toNat) := by
            rw [hsh, Int.fdiv_eq_ediv_of_nonneg _ (Int.le_of_lt (Int.pow_pos (by decide)))]
          have hlow : Builtin.bitXor x (x.fdiv (2 ^ ((((lo + hi).fdiv (2 ^ Int.toNat 1)) - lo) * n).toNat) * 2 ^ ((((lo + hi).fdiv (2 ^ Int.toNat 1)) - lo) * n).toNat) = x % 2 ^ (n.toNat * (((lo + hi).fdiv (2 ^ Int.toNat 1)) - lo).toNat) := by
            rw [hsh]; exact xor_high _ hx
          have hx3 : x < 2 ^ (n.toNat * (((lo + hi).fdiv (2 ^ Int.toNat 1)) - lo).toNat + n.toNat * (hi - ((lo + hi).fdiv (2 ^ Int.toNat 1))).toNat) := by
            rw [← Nat.mul_add, show (((lo + hi).fdiv (2 ^ Int.toNat 1)) - lo).toNat + (hi - ((lo + hi).fdiv (2 ^ Int.toNat 1))).toNat = (hi - lo).toNat from by omega]; exact hx2
          refine wpAny_call ?_
          k_dflt (first | (refine' code_nest ?k1 ?k2 ?k3 ?k4 ?k5 ?kA ?kF ?kK ?k6 ?k7 ?k8 ?k9 ?kB ?_ ?c2 ?c3 ?c4 ?c5; (case kA => exact rfl); (case kF => exact rfl); (case kK => first | exact rfl | assumption); (case k1 => k_asm); (case k2 => k_asm); (case k3 => k_asm); (case k4 => k_asm); (case k5 => k_asm); (case k6 => k_mem); (case k7 => exact codeRec_news (by k_asm) (by k_mem) (by assumption) (by assumption)); (case k8 => ktr_room); (case k9 => exact BindsTo.of_eq rfl); (case c5 => decide); (case kB => exact locs rfl); (case c2 => exact rfl); (case c3 => exact rfl); (case c4 => exact rfl); k_whole; intro g' L' h' FG' F' N' B' X' T'; (try dsimp only); (try k_lift B'); (try k_fold)) | (refine' code_defC ?k1 ?k2 ?k3 ?k4 ?k5 ?kA ?kF ?kK ?k6 ?k7 ?k8 ?k9 ?kB ?kD ?_ ?c2 ?c3 ?c4; (case kA => exact rfl); (case kF => exact rfl); (case kK => first | exact rfl | assumption); (case k1 => k_asm); (case k2 => k_asm); (case k3 => k_asm); (case k4 => k_asm); (case k5 => k_asm); (case k6 => k_is); (case k7 => k_is); (case k8 => ktr_room); (case k9 => exact BindsTo.of_eq rfl); (case kB => exact rfl); (case kD => decide +kernel); (case c2 => exact rfl); (case c3 => exact rfl); (case c4 => exact rfl); k_whole; intro g' L' h' tk' cells' FG' F' N' Y' B' X' T' l1; (try k_lt l1); k_cells Y'; (try simp only [List.cons_append, List.nil_append] at N'); (try dsimp only); (try k_lift B'); (try k_fold)) | ktr_enter)
          k_steps
          · skip
            k_dflt (refine' ih _ _ _ _ _ _ _ _ _ _ _ _ _ _ _ _ _ _ _ _ _ _ _ _ _ ?b1 ?b2 ?b3 ?b4 ?b5 ?b6 hI ?b8 ?b9 ?b10 ?b11 ?b12 ?b13 ?b14 ?b15 ?b16 ?_)
            case b1 => k_asm
            case b2 => k_asm
            case b3 => k_asm
            case b4 => k_asm
            case b5 => k_asm
            case b6 => exact rfl
            case b8 => omega
            case b9 => omega
            case b10 => first | omega | (rw [hlow]; omega)
            case b11 => first | omega | (rw [hlow]; omega)
            case b12 => omega
            case b13 => (rw [hlow]; exact (low_lt _).1)
            case b14 => (rw [hlow]; exact (low_lt _).2)
            case b15 => first | omega | ktr_room
            case b16 => first | omega | ktr_units
            intro vs1 h9 tk9 F9 N9 hI1
            rw [hlow] at hI1
            have hl1 := len_join (ns := ns) (n := n.toNat) (lo := lo.toNat) (mid := ((lo + hi).fdiv (2 ^ Int.toNat 1)).toNat) (x := x % 2 ^ (n.toNat * (((lo + hi).fdiv (2 ^ Int.toNat 1)) - lo).toNat)) (by omega) (by omega)
            rw [show (((lo + hi).fdiv (2 ^ Int.toNat 1)) - lo).toNat = ((lo + hi).fdiv (2 ^ Int.toNat 1)).toNat - lo.toNat from by omega] at hI1
            rw [show (((lo + hi).fdiv (2 ^ Int.toNat 1)) - lo).toNat = ((lo + hi).fdiv (2 ^ Int.toNat 1)).toNat - lo.toNat from by omega] at hl1
            k_steps
            k_dflt (refine' ih _ _ _ _ _ _ _ _ _ _ _ _ _ _ _ _ _ _ _ _ _ _ _ _ _ ?b1 ?b2 ?b3 ?b4 ?b5 ?b6 hI1 ?b8 ?b9 ?b10 ?b11 ?b12 ?b13 ?b14 ?b15 ?b16 ?_)
            case b1 => k_asm
            case b2 => k_asm
            case b3 => k_asm
            case b4 => k_asm
            case b5 => k_asm
            case b6 => exact rfl
            case b8 => omega
            case b9 => omega
            case b10 => first | omega | (rw [hl1]; omega)
            case b11 => first | omega | (rw [hl1]; omega)
            case b12 => omega
            case b13 => (rw [hup]; exact (high_lt hx hx3).1)
            case b14 => (rw [hup]; exact (high_lt hx hx3).2)
            case b15 => first | omega | ktr_room
            case b16 => first | omega | ktr_units
            intro vs2 h9 tk9 F9 N9 hI2
            k_steps
            refine hret _ _ _ (by k_asm) (by k_asm) ?_
            rw [hup, show (((lo + hi).fdiv (2 ^ Int.toNat 1)) - lo).toNat = ((lo + hi).fdiv (2 ^ Int.toNat 1)).toNat - lo.toNat from by omega, show (hi - ((lo + hi).fdiv (2 ^ Int.toNat 1))).toNat = hi.toNat - ((lo + hi).fdiv (2 ^ Int.toNat 1)).toNat from by omega, digs_join (by omega) (by omega) (by omega)] at hI2
            rw [show (hi - lo).toNat = hi.toNat - lo.toNat from by omega]
            exact hI2
    have hpos : 0 < n1 := by
      rcases Nat.eq_zero_or_pos n1 with h | h
      · exfalso
        have h1 := ndig_ge (x := x) (n := n.toNat) (by omega)
        rw [← hn1, h, Nat.mul_zero] at h1
        have h2 := lt_pow_bits hx
        rw [show Builtin.Int.intBits x = 0 from by omega] at h2
        simp at h2; omega
      · exact h
    k_dflt (refine' key 6 x 0 n1 _ _ _ _ _ _ _ _ _ _ _ _ _ _ _ _ _ _ _ _ _ _ ?b1 ?b2 ?b3 N10 ?b5 ?b6 i1 ?b8 ?b9 ?b10 ?b11 ?b12 hx ?b14 ?b15 ?b16 ?_)
    case b1 => k_asm
    case b2 => k_asm
    case b3 => k_asm
    case b5 => k_asm
    case b6 => exact rfl
    case b8 => omega
    case b9 => omega
    case b10 => omega
    case b11 => omega
    case b12 => omega
    case b14 => (rw [show (((n1 : Nat) : Int) - 0).toNat = n1 from by omega, hn1]; exact Int.lt_of_lt_of_le (lt_pow_bits hx) (pow_mono (ndig_ge (by omega))))
    case b15 => first | omega | ktr_room
    case b16 => first | omega | ktr_units
    intro vs9 h9 tk9 F9 N11 hI9
    have hI10 : IntsAre vs9 (digs n.toNat (ndig n.toNat x) x) := by
      rw [show (((n1 : Nat) : Int) - 0).toNat = ndig n.toNat x from by omega, List.drop_of_length_le (by omega)] at hI9
      simpa using hI9
    subst hR
    k_steps
    (rename News h₀ L _ _ => kN)
    refine hret c' oc' voc' t' D' vs9 0 _ _ d2' d3' (ktn_ltOf (by obtain ⟨_, _, _, _, _, _, h⟩ := l1'; exact h)) (ltN (by omega)) (ktn_ltOf (by obtain ⟨_, _, _, _, _, h⟩ := lD'; exact h)) (ltN (by omega)) (neN (by omega)) (by k_asm) (News.sub kN ?_) hI10
    refine List.forall_mem_cons.mpr ⟨?m1, List.forall_mem_cons.mpr ⟨?m2, List.forall_mem_cons.mpr ⟨?m3, ?m4⟩⟩⟩
    case m1 => k_mem
    case m2 => k_mem
    case m3 => k_mem
    case m4 => exact fun p hp => .tail _ (.tail _ (.tail _ (.tail _ (.tail _ (.tail _ (.tail _ (.tail _ hp)))))))
  · rename_i D' hD' i1 n1 s1 e1 e2 e3 lD' h1' o1' d1' f' c' oc' voc' t' ct' dc' h2' tk2' d2' d3' l1' l2' h3' o3' F3' N3' d4' hz kF kN Tc' kX
    have e0 : (List.replicate (((Builtin.Int.intBits x : Int) + n - 1).fdiv n).toNat [(0 : Int)]).flatten = digs n.toNat (ndig n.toNat x) x := by
      rw [zeros_digs n.toNat, hE, Int.toNat_natCast, hz]
    have hI10 := e0 ▸ i1
    refine hret c' oc' voc' t' D' _ 0 _ _ d2' d3' (ktn_ltOf (by obtain ⟨_, _, _, _, _, _, h⟩ := l1'; exact h)) (ltN (by omega)) (ktn_ltOf (by obtain ⟨_, _, _, _, _, h⟩ := lD'; exact h)) (ltN (by omega)) (neN (by omega)) (by k_asm) (News.sub kN ?_) hI10
    refine List.forall_mem_cons.mpr ⟨?m1, List.forall_mem_cons.mpr ⟨?m2, List.forall_mem_cons.mpr ⟨?m3, ?m4⟩⟩⟩
    case m1 => k_mem
    case m2 => k_mem
    case m3 => k_mem
    case m4 => exact fun p hp => .tail _ (.tail _ (.tail _ (.tail _ (.tail _ (.tail _ (.tail _ (.tail _ hp)))))))
theorem i2d_hit (w : World) (mean : ExcName → Option Value) (mg mb : Str → Option Value) :
  ∀ (dp un : Nat) (gd : Option (List Code)) (cn : Str) (cs : Scope) (a : Addr) (ccd : Value) (cl : List (Str × Addr)) (outer : List Env) (A₀ : Around) (base h₀ : Heap) (L : Addr) (m : Str → Option Value) (rest : List (Addr × Obj)) (s : Shared) (x n : Int) (tx tn : Tok) (cc : Addr) (occ : Obj) (vcc : Array Value) (tcc : Tok)
    (Q E : Value → Shared → Prop),
    Below A₀ base outer h₀ → Fr h₀ L s.heap m → (Mine.hd.heap_39 w.params).In h₀ → News h₀ L s.heap ((30, tabObj #[rawInt 32, rawInt 4, .ref cc]) :: (cc, occ) :: rest) → Top VW LO mean mg mb h₀ → cs.kind = .function → CodeHd base 34 30 →
    (∀ q ∈ rest, q.1 ≠ 30) → 0 ≤ x → 0 < n → n ≤ 100000 → x < 2 ^ (64 * n.toNat) → occ.data = .fields vcc → vcc[1]? = some (.str (Str.ofString "_int2digits.<locals>.inner") tcc) → cc ≠ 30 →
    dp + 10 < recursionLimit → un + 80 < cLine →
    (∀ l' vs' k' h' tk', (∀ q ∈ rest, q.1 < l') → 30 < l' → cc < l' → Fr h₀ L h' m → News h₀ L h' ((l', listOf vs'.toArray k') :: (30, tabObj #[rawInt 32, rawInt 4, .ref cc]) :: (cc, occ) :: rest) → IntsAre vs' (digs n.toNat (ndig n.toNat x) x) → Q (.ref l') { s with heap := h', toks := tk' }) →
    wpAny (model PySem.Challenge.rw_ph0116_01.row.prog w) (ktrTop dp un gd cn cs L a ccd cl outer) (call (.ref 35) [.int x tx, .int n tn]) Q E s := by
  k_fill
  intro dp un gd cn cs a ccd cl outer A₀ base h₀ L m rest s x n tx tn cc occ vcc tcc Q E B F X N T hk C30 hne hx hn hn2 hx2 hcc1 hcc2 hcc3 hd hu hret
  have hbt := bits_pow hx hx2
  have hE := ndig_eq (x := x) hn
  have hD : ndig n.toNat x ≤ 64 := ndig_le (by omega) hbt
  have hE0 : 0 ≤ ((Builtin.Int.intBits x : Int) + n - 1).fdiv n := by rw [hE]; omega
  have hE1 : ((Builtin.Int.intBits x : Int) + n - 1).fdiv n ≤ 64 := by rw [hE]; omega
  refine wpAny_call ?_
  k_dflt (first | (refine' code_nest ?k1 ?k2 ?k3 ?k4 ?k5 ?kA ?kF ?kK ?k6 ?k7 ?k8 ?k9 ?kB ?_ ?c2 ?c3 ?c4 ?c5; (case kA => exact rfl); (case kF => exact rfl); (case kK => first | exact rfl | assumption); (case k1 => k_asm); (case k2 => k_asm); (case k3 => k_asm); (case k4 => k_asm); (case k5 => k_asm); (case k6 => k_mem); (case k7 => exact codeRec_news (by k_asm) (by k_mem) (by assumption) (by assumption)); (case k8 => ktr_room); (case k9 => exact BindsTo.of_eq rfl); (case c5 => decide); (case kB => exact locs rfl); (case c2 => exact rfl); (case c3 => exact rfl); (case c4 => exact rfl); k_whole; intro g' L' h' FG' F' N' B' X' T'; (try dsimp only); (try k_lift B'); (try k_fold)) | (refine' code_defC ?k1 ?k2 ?k3 ?k4 ?k5 ?kA ?kF ?kK ?k6 ?k7 ?k8 ?k9 ?kB ?kD ?_ ?c2 ?c3 ?c4; (case kA => exact rfl); (case kF => exact rfl); (case kK => first | exact rfl | assumption); (case k1 => k_asm); (case k2 => k_asm); (case k3 => k_asm); (case k4 => k_asm); (case k5 => k_asm); (case k6 => k_is); (case k7 => k_is); (case k8 => ktr_room); (case k9 => exact BindsTo.of_eq rfl); (case kB => exact rfl); (case kD => decide +kernel); (case c2 => exact rfl); (case c3 => exact rfl); (case c4 => exact rfl); k_whole; intro g' L' h' tk' cells' FG' F' N' Y' B' X' T' l1; (try k_lt l1); k_cells Y'; (try simp only [List.cons_append, List.nil_append] at N'); (try dsimp only); (try k_lift B'); (try k_fold)) | ktr_enter)
  k_steps
  · rename_i D' hD' i1 n1 s1 e1 e2 e3 lD' h1' o1' d1' f' ct' dc' h2' tk2' l1' h3' o3' F3' N3' d4' hnz
    (rename News _ _ _ _ => N9)
    have hn1 : n1 = ndig n.toNat x := by
      rw [← e1, hE, Int.toNat_natCast, zeros_digs n.toNat, digs_length]
    obtain ⟨REST, hR, N10⟩ := bring2 N9
    have key : ∀ (j : Nat) (x lo hi : Int) (vs : List Value) (ns : List Int) (t0 t1 t2 : Tok) (dp un : Nat) (gd : Option (List Code)) (cn : Str) (cs : Scope) (a : Addr) (ccd : Value) (cl : List (Str × Addr)) (outer : List Env) (A₀ : Around) (base h₀ : Heap) (L : Addr) (m : Str → Option Value) (s : Shared) (Q E : Value → Shared → Prop),
      Below A₀ base outer h₀ → Fr h₀ L s.heap m → (Mine.hd.heap_39 w.params).In h₀ → News h₀ L s.heap ((D', listOf vs.toArray 0) :: REST) → Top VW LO mean mg mb h₀ → cs.kind = .function → IntsAre vs ns →
      0 ≤ lo → lo < hi → hi ≤ ns.length → ns.length ≤ 64 → hi - lo ≤ 2 ^ j → 0 ≤ x → x < 2 ^ (n.toNat * (hi - lo).toNat) → dp + j + 1 < recursionLimit → un + 8 * (j + 1) < cLine →
      (∀ vs' h' tk', Fr h₀ L h' m → News h₀ L h' ((D', listOf vs'.toArray 0) :: REST) → IntsAre vs' (ns.take lo.toNat ++ digs n.toNat (hi - lo).toNat x ++ ns.drop hi.toNat) → Q .none { s with heap := h', toks := tk' }) →
      wpAny (model PySem.Challenge.rw_ph0116_01.row.prog w) (ktrTop dp un gd cn cs L a ccd cl outer) (call (.ref f') [.int x t0, .int lo t1, .int hi t2]) Q E s := by
      clear hret N9 N10 hd hu N F B X T hx hx2 hbt hE hD hE0 hE1 i1 s1 e1 e2 e3 hn1 hnz
      subst hR
      intro j
      induction j with
      | zero =>
        intro x lo hi vs ns t0 t1 t2 dp un gd cn cs a ccd cl outer A₀ base h₀ L m s Q E B F X N T hk hI hlo hlt hhi h64 hj hx hx2 hdp hun hret
        have hj1 : lo + 1 = hi := by simp at hj; omega
        refine wpAny_call ?_
        k_dflt (first | (refine' code_nest ?k1 ?k2 ?k3 ?k4 ?k5 ?kA ?kF ?kK ?k6 ?k7 ?k8 ?k9 ?kB ?_ ?c2 ?c3 ?c4 ?c5; (case kA => exact rfl); (case kF => exact rfl); (case kK => first | exact rfl | assumption); (case k1 => k_asm); (case k2 => k_asm); (case k3 => k_asm); (case k4 => k_asm); (case k5 => k_asm); (case k6 => k_mem); (case k7 => exact codeRec_news (by k_asm) (by k_mem) (by assumption) (by assumption)); (case k8 => ktr_room); (case k9 => exact BindsTo.of_eq rfl); (case c5 => decide); (case kB => exact locs rfl); (case c2 => exact rfl); (case c3 => exact rfl); (case c4 => exact rfl); k_whole; intro g' L' h' FG' F' N' B' X' T'; (try dsimp only); (try k_lift B'); (try k_fold)) | (refine' code_defC ?k1 ?k2 ?k3 ?k4 ?k5 ?kA ?kF ?kK ?k6 ?k7 ?k8 ?k9 ?kB ?kD ?_ ?c2 ?c3 ?c4; (case kA => exact rfl); (case kF => exact rfl); (case kK => first | exact rfl | assumption); (case k1 => k_asm); (case k2 => k_asm); (case k3 => k_asm); (case k4 => k_asm); (case k5 => k_asm); (case k6 => k_is); (case k7 => k_is); (case k8 => ktr_room); (case k9 => exact BindsTo.of_eq rfl); (case kB => exact rfl); (case kD => decide +kernel); (case c2 => exact rfl); (case c3 => exact rfl); (case c4 => exact rfl); k_whole; intro g' L' h' tk' cells' FG' F' N' Y' B' X' T' l1; (try k_lt l1); k_cells Y'; (try simp only [List.cons_append, List.nil_append] at N'); (try dsimp only); (try k_lift B'); (try k_fold)) | ktr_enter)
        k_steps
        · refine hret _ _ _ (by k_asm) (by k_asm) ?_
          rw [show (hi - lo).toNat = 1 from by omega] at hx2 ⊢
          rw [digs_one hx (by simpa using hx2), show hi.toNat = lo.toNat + 1 from by omega, ← set_slice (by omega)]
          assumption
      | succ j ih =>
        intro x lo hi vs ns t0 t1 t2 dp un gd cn cs a ccd cl outer A₀ base h₀ L m s Q E B F X N T hk hI hlo hlt hhi h64 hj hx hx2 hdp hun hret
        by_cases hj1 : lo + 1 = hi
        · refine wpAny_call ?_
          k_dflt (first | (refine' code_nest ?k1 ?k2 ?k3 ?k4 ?k5 ?kA ?kF ?kK ?k6 ?k7 ?k8 ?k9 ?kB ?_ ?c2 ?c3 ?c4 ?c5; (case kA => exact rfl); (case kF => exact rfl); (case kK => first | exact rfl | assumption); (case k1 => k_asm); (case k2 => k_asm); (case k3 => k_asm); (case k4 => k_asm); (case k5 => k_asm); (case k6 => k_mem); (case k7 => exact codeRec_news (by k_asm) (by k_mem) (by assumption) (by assumption)); (case k8 => ktr_room); (case k9 => exact BindsTo.of_eq rfl); (case c5 => decide); (case kB => exact locs rfl); (case c2 => exact rfl); (case c3 => exact rfl); (case c4 => exact rfl); k_whole; intro g' L' h' FG' F' N' B' X' T'; (try dsimp only); (try k_lift B'); (try k_fold)) | (refine' code_defC ?k1 ?k2 ?k3 ?k4 ?k5 ?kA ?kF ?kK ?k6 ?k7 ?k8 ?k9 ?kB ?kD ?_ ?c2 ?c3 ?c4; (case kA => exact rfl); (case kF => exact rfl); (case kK => first | exact rfl | assumption); (case k1 => k_asm); (case k2 => k_asm); (case k3 => k_asm); (case k4 => k_asm); (case k5 => k_asm); (case k6 => k_is); (case k7 => k_is); (case k8 => ktr_room); (case k9 => exact BindsTo.of_eq rfl); (case kB => exact rfl); (case kD => decide +kernel); (case c2 => exact rfl); (case c3 => exact rfl); (case c4 => exact rfl); k_whole; intro g' L' h' tk' cells' FG' F' N' Y' B' X' T' l1; (try k_lt l1); k_cells Y'; (try simp only [List.cons_append, List.nil_append] at N'); (try dsimp only); (try k_lift B'); (try k_fold)) | ktr_enter)
          k_steps
          · refine hret _ _ _ (by k_asm) (by k_asm) ?_
            rw [show (hi - lo).toNat = 1 from by omega] at hx2 ⊢
            rw [digs_one hx (by simpa using hx2), show hi.toNat = lo.toNat + 1 from by omega, ← set_slice (by omega)]
            assumption
        · have hm := mid_facts hlt hj1 hj
          have hs1 : 0 ≤ ((lo + hi).fdiv (2 ^ Int.toNat 1) - lo) * n := Int.mul_nonneg (by omega) (by omega)
          have hs2 : ((lo + hi).fdiv (2 ^ Int.toNat 1) - lo) * n ≤ 64 * 100000 := Int.mul_le_mul (by omega) hn2 (by omega) (by decide)
          have hbx := Nat.le_trans (bits_pow hx hx2) (Nat.le_trans (Nat.mul_le_mul (by omega : n.toNat ≤ 100000) (by omega : (hi - lo).toNat ≤ 64)) (by decide : 100000 * 64 ≤ 6400000))
          have hb3 : Builtin.Int.intBits (x.fdiv (2 ^ ((((lo + hi).fdiv (2 ^ Int.toNat 1)) - lo) * n).toNat)) ≤ 6400000 := intBits_fdiv_le hbx
          have hs3 := Int.le_trans (Int.add_le_add (Int.ofNat_le.mpr hb3) hs2) (by decide : ((6400000 : Nat) : Int) + 64 * 100000 ≤ 2 ^ 27)
          have hsh : ((((lo + hi).fdiv (2 ^ Int.toNat 1)) - lo) * n).toNat = n.toNat * (((lo + hi).fdiv (2 ^ Int.toNat 1)) - lo).toNat := sh_eq (by omega) (by omega)
          have hup : x.fdiv (2 ^ ((((lo + hi).fdiv (2 ^ Int.toNat 1)) - lo) * n).toNat) = x / 2 ^ (n.toNat * (((lo + hi).fdiv (2 ^ Int.toNat 1)) - lo).toNat) := by
            rw [hsh, Int.fdiv_eq_ediv_of_nonneg _ (Int.le_of_lt (Int.pow_pos (by decide)))]
          have hlow : Builtin.bitXor x (x.fdiv (2 ^ ((((lo + hi).fdiv (2 ^ Int.toNat 1)) - lo) * n).toNat) * 2 ^ ((((lo + hi).fdiv (2 ^ Int.toNat 1)) - lo) * n).toNat) = x % 2 ^ (n.toNat * (((lo + hi).fdiv (2 ^ Int.toNat 1)) - lo).toNat) := by
            rw [hsh]; exact xor_high _ hx
          have hx3 : x < 2 ^ (n.toNat * (((lo + hi).fdiv (2 ^ Int.toNat 1)) - lo).toNat + n.toNat * (hi - ((lo + hi).fdiv (2 ^ Int.toNat 1))).toNat) := by
            rw [← Nat.mul_add, show (((lo + hi).fdiv (2 ^ Int.toNat 1)) - lo).toNat + (hi - ((lo + hi).fdiv (2 ^ Int.toNat 1))).toNat = (hi - lo).toNat from by omega]; exact hx2
          refine wpAny_call ?_
          k_dflt (first | (refine' code_nest ?k1 ?k2 ?k3 ?k4 ?k5 ?kA ?kF ?kK ?k6 ?k7 ?k8 ?k9 ?kB ?_ ?c2 ?c3 ?c4 ?c5; (case kA => exact rfl); (case kF => exact rfl); (case kK => first | exact rfl | assumption); (case k1 => k_asm); (case k2 => k_asm); (case k3 => k_asm); (case k4 => k_asm); (case k5 => k_asm); (case k6 => k_mem); (case k7 => exact codeRec_news (by k_asm) (by k_mem) (by assumption) (by assumption)); (case k8 => ktr_room); (case k9 => exact BindsTo.of_eq rfl); (case c5 => decide); (case kB => exact locs rfl); (case c2 => exact rfl); (case c3 => exact rfl); (case c4 => exact rfl); k_whole; intro g' L' h' FG' F' N' B' X' T'; (try dsimp only); (try k_lift B'); (try k_fold)) | (refine' code_defC ?k1 ?k2 ?k3 ?k4 ?k5 ?kA ?kF ?kK ?k6 ?k7 ?k8 ?k9 ?kB ?kD ?_ ?c2 ?c3 ?c4; (case kA => exact rfl); (case kF => exact rfl); (case kK => first | exact rfl | assumption); (case k1 => k_asm); (case k2 => k_asm); (case k3 => k_asm); (case k4 => k_asm); (case k5 => k_asm); (case k6 => k_is); (case k7 => k_is); (case k8 => ktr_room); (case k9 => exact BindsTo.of_eq rfl); (case kB => exact rfl); (case kD => decide +kernel); (case c2 => exact rfl); (case c3 => exact rfl); (case c4 => exact rfl); k_whole; intro g' L' h' tk' cells' FG' F' N' Y' B' X' T' l1; (try k_lt l1); k_cells Y'; (try simp only [List.cons_append, List.nil_append] at N'); (try dsimp only); (try k_lift B'); (try k_fold)) | ktr_enter)
          k_steps
          · skip
            k_dflt (refine' ih _ _ _ _ _ _ _ _ _ _ _ _ _ _ _ _ _ _ _ _ _ _ _ _ _ ?b1 ?b2 ?b3 ?b4 ?b5 ?b6 hI ?b8 ?b9 ?b10 ?b11 ?b12 ?b13 ?b14 ?b15 ?b16 ?_)
            case b1 => k_asm
            case b2 => k_asm
            case b3 => k_asm
            case b4 => k_asm
            case b5 => k_asm
            case b6 => exact rfl
            case b8 => omega
            case b9 => omega
            case b10 => first | omega | (rw [hlow]; omega)
            case b11 => first | omega | (rw [hlow]; omega)
            case b12 => omega
            case b13 => (rw [hlow]; exact (low_lt _).1)
            case b14 => (rw [hlow]; exact (low_lt _).2)
            case b15 => first | omega | ktr_room
            case b16 => first | omega | ktr_units
            intro vs1 h9 tk9 F9 N9 hI1
            rw [hlow] at hI1
            have hl1 := len_join (ns := ns) (n := n.toNat) (lo := lo.toNat) (mid := ((lo + hi).fdiv (2 ^ Int.toNat 1)).toNat) (x := x % 2 ^ (n.toNat * (((lo + hi).fdiv (2 ^ Int.toNat 1)) - lo).toNat)) (by omega) (by omega)
            rw [show (((lo + hi).fdiv (2 ^ Int.toNat 1)) - lo).toNat = ((lo + hi).fdiv (2 ^ Int.toNat 1)).toNat - lo.toNat from by omega] at hI1
            rw [show (((lo + hi).fdiv (2 ^ Int.toNat 1)) - lo).toNat = ((lo + hi).fdiv (2 ^ Int.toNat 1)).toNat - lo.toNat from by omega] at hl1
            k_steps
            k_dflt (refine' ih _ _ _ _ _ _ _ _ _ _ _ _ _ _ _ _ _ _ _ _ _ _ _ _ _ ?b1 ?b2 ?b3 ?b4 ?b5 ?b6 hI1 ?b8 ?b9 ?b10 ?b11 ?b12 ?b13 ?b14 ?b15 ?b16 ?_)
            case b1 => k_asm
            case b2 => k_asm
            case b3 => k_asm
            case b4 => k_asm
            case b5 => k_asm
            case b6 => exact rfl
            case b8 => omega
            case b9 => omega
            case b10 => first | omega | (rw [hl1]; omega)
            case b11 => first | omega | (rw [hl1]; omega)
            case b12 => omega
            case b13 => (rw [hup]; exact (high_lt hx hx3).1)
            case b14 => (rw [hup]; exact (high_lt hx hx3).2)
            case b15 => first | omega | ktr_room
            case b16 => first | omega | ktr_units
            intro vs2 h9 tk9 F9 N9 hI2
            k_steps
            refine hret _ _ _ (by k_asm) (by k_asm) ?_
            rw [hup, show (((lo + hi).fdiv (2 ^ Int.toNat 1)) - lo).toNat = ((lo + hi).fdiv (2 ^ Int.toNat 1)).toNat - lo.toNat from by omega, show (hi - ((lo + hi).fdiv (2 ^ Int.toNat 1))).toNat = hi.toNat - ((lo + hi).fdiv (2 ^ Int.toNat 1)).toNat from by omega, digs_join (by omega) (by omega) (by omega)] at hI2
            rw [show (hi - lo).toNat = hi.toNat - lo.toNat from by omega]
            exact hI2
    have hpos : 0 < n1 := by
      rcases Nat.eq_zero_or_pos n1 with h | h
      · exfalso
        have h1 := ndig_ge (x := x) (n := n.toNat) (by omega)
        rw [← hn1, h, Nat.mul_zero] at h1
        have h2 := lt_pow_bits hx
        rw [show Builtin.Int.intBits x = 0 from by omega] at h2
        simp at h2; omega
      · exact h
    k_dflt (refine' key 6 x 0 n1 _ _ _ _ _ _ _ _ _ _ _ _ _ _ _ _ _ _ _ _ _ _ ?b1 ?b2 ?b3 N10 ?b5 ?b6 i1 ?b8 ?b9 ?b10 ?b11 ?b12 hx ?b14 ?b15 ?b16 ?_)
    case b1 => k_asm
    case b2 => k_asm
    case b3 => k_asm
    case b5 => k_asm
    case b6 => exact rfl
    case b8 => omega
    case b9 => omega
    case b10 => omega
    case b11 => omega
    case b12 => omega
    case b14 => (rw [show (((n1 : Nat) : Int) - 0).toNat = n1 from by omega, hn1]; exact Int.lt_of_lt_of_le (lt_pow_bits hx) (pow_mono (ndig_ge (by omega))))
    case b15 => first | omega | ktr_room
    case b16 => first | omega | ktr_units
    intro vs9 h9 tk9 F9 N11 hI9
    have hI10 : IntsAre vs9 (digs n.toNat (ndig n.toNat x) x) := by
      rw [show (((n1 : Nat) : Int) - 0).toNat = ndig n.toNat x from by omega, List.drop_of_length_le (by omega)] at hI9
      simpa using hI9
    subst hR
    k_steps
    (rename News h₀ L _ _ => kN)
    refine hret D' vs9 0 _ _ (ktn_ltOf (by obtain ⟨_, _, _, _, _, _, h⟩ := lD'; exact h)) (ltN (by omega)) (ltN (by omega)) (by k_asm) (News.sub kN ?_) hI10
    refine List.forall_mem_cons.mpr ⟨?m1, List.forall_mem_cons.mpr ⟨?m2, List.forall_mem_cons.mpr ⟨?m3, ?m4⟩⟩⟩
    case m1 => k_mem
    case m2 => k_mem
    case m3 => k_mem
    case m4 => exact fun p hp => .tail _ (.tail _ (.tail _ (.tail _ (.tail _ (.tail _ (.tail _ (.tail _ hp)))))))
  · rename_i D' hD' i1 n1 s1 e1 e2 e3 lD' h1' o1' d1' f' ct' dc' h2' tk2' l1' h3' o3' F3' N3' d4' hz kF kN Tc' kX
    have e0 : (List.replicate (((Builtin.Int.intBits x : Int) + n - 1).fdiv n).toNat [(0 : Int)]).flatten = digs n.toNat (ndig n.toNat x) x := by
      rw [zeros_digs n.toNat, hE, Int.toNat_natCast, hz]
    have hI10 := e0 ▸ i1
    refine hret D' _ 0 _ _ (ktn_ltOf (by obtain ⟨_, _, _, _, _, _, h⟩ := lD'; exact h)) (ltN (by omega)) (ltN (by omega)) (by k_asm) (News.sub kN ?_) hI10
    refine List.forall_mem_cons.mpr ⟨?m1, List.forall_mem_cons.mpr ⟨?m2, List.forall_mem_cons.mpr ⟨?m3, ?m4⟩⟩⟩
    case m1 => k_mem
    case m2 => k_mem
    case m3 => k_mem
    case m4 => exact fun p hp => .tail _ (.tail _ (.tail _ (.tail _ (.tail _ (.tail _ (.tail _ (.tail _ hp)))))))
end
section
theorem off_C4 : True := by
  w_top off
  trivial
open PySem PySem.W PySem.Spec PySem.Calls PyProof.Rows
set_option Elab.async false
set_option maxRecDepth 100000
set_option maxHeartbeats 8000000
theorem lawdig_first (w : World) (mean : ExcName → Option Value) (mg mb : Str → Option Value) :
  ∀ (dp un : Nat) (gd : Option (List Code)) (cn : Str) (cs : Scope) (a : Addr) (ccd : Value) (cl : List (Str × Addr)) (outer : List Env) (A₀ : Around) (base h₀ : Heap) (L : Addr) (m : Str → Option Value) (rest : List (Addr × Obj)) (s : Shared) (x n c : Int) (tx tn tc : Tok)
    (Q E : Value → Shared → Prop),
    Below A₀ base outer h₀ → Fr h₀ L s.heap m → (Mine.hd.heap_39 w.params).In h₀ → News h₀ L s.heap ((30, tabObj #[]) :: rest) → Top VW LO mean mg mb h₀ → cs.kind = .function → CodeHd base 34 30 →
    (∀ q ∈ rest, q.1 ≠ 30) → 0 ≤ x → 0 < n → n ≤ 100000 → x < 2 ^ (64 * n.toNat) → 0 ≤ c → c ≤ 64 →
    dp + 12 < recursionLimit → un + 96 < cLine →
    (∀ c' oc' voc' t' l' vs' k' h' tk', oc'.data = .fields voc' → voc'[1]? = some (.str (Str.ofString "_int2digits.<locals>.inner") t') → (∀ q ∈ rest, q.1 < c') → 30 < c' → (∀ q ∈ rest, q.1 < l') → 30 < l' → c' < l' → Fr h₀ L h' m → News h₀ L h' ((l', listOf vs'.toArray k') :: (30, tabObj #[rawInt 32, rawInt 4, .ref c']) :: (c', oc') :: rest) → IntsAre vs' (digs n.toNat c.toNat x) → Q (.ref l') { s with heap := h', toks := tk' }) →
    wpAny (model PySem.Challenge.rw_ph0116_01.row.prog w) (ktrTop dp un gd cn cs L a ccd cl outer) (call (.ref 87) [.int x tx, .int n tn, .int c tc]) Q E s := by
  k_fill
  intro dp un gd cn cs a ccd cl outer A₀ base h₀ L m rest s x n c tx tn tc Q E B F X N T hk C30 hne hx hn hn2 hx2 hc0 hc64 hd hu hret
  have C30' := C30
  refine wpAny_call ?_
  k_dflt (first | (refine' code_nest ?k1 ?k2 ?k3 ?k4 ?k5 ?kA ?kF ?kK ?k6 ?k7 ?k8 ?k9 ?kB ?_ ?c2 ?c3 ?c4 ?c5; (case kA => exact rfl); (case kF => exact rfl); (case kK => first | exact rfl | assumption); (case k1 => k_asm); (case k2 => k_asm); (case k3 => k_asm); (case k4 => k_asm); (case k5 => k_asm); (case k6 => k_mem); (case k7 => exact codeRec_news (by k_asm) (by k_mem) (by assumption) (by assumption)); (case k8 => ktr_room); (case k9 => exact BindsTo.of_eq rfl); (case c5 => decide); (case kB => exact locs rfl); (case c2 => exact rfl); (case c3 => exact rfl); (case c4 => exact rfl); k_whole; intro g' L' h' FG' F' N' B' X' T'; (try dsimp only); (try k_lift B'); (try k_fold)) | (refine' code_defC ?k1 ?k2 ?k3 ?k4 ?k5 ?kA ?kF ?kK ?k6 ?k7 ?k8 ?k9 ?kB ?kD ?_ ?c2 ?c3 ?c4; (case kA => exact rfl); (case kF => exact rfl); (case kK => first | exact rfl | assumption); (case k1 => k_asm); (case k2 => k_asm); (case k3 => k_asm); (case k4 => k_asm); (case k5 => k_asm); (case k6 => k_is); (case k7 => k_is); (case k8 => ktr_room); (case k9 => exact BindsTo.of_eq rfl); (case kB => exact rfl); (case kD => decide +kernel); (case c2 => exact rfl); (case c3 => exact rfl); (case c4 => exact rfl); k_whole; intro g' L' h' tk' cells' FG' F' N' Y' B' X' T' l1; (try k_lt l1); k_cells Y'; (try simp only [List.cons_append, List.nil_append] at N'); (try dsimp only); (try k_lift B'); (try k_fold)) | ktr_enter)
  k_steps
  k_dflt (refine' i2d_first w mean mg mb _ _ _ _ _ _ _ _ _ _ _ _ _ _ _ _ _ _ _ _ _ _ ?b1 ?b2 ?b3 ?b4 ?b5 ?b6 C30' hne hx hn hn2 hx2 ?b13 ?b14 ?_)
  case b1 => k_asm
  case b2 => k_asm
  case b3 => k_asm
  case b4 => k_asm
  case b5 => k_asm
  case b6 => exact rfl
  case b13 => first | omega | ktr_room
  case b14 => first | omega | ktr_units
  intro c' oc' voc' t' l' vs' k' h9 tk9 hoc hvoc hc1 hc2 hl1 hl2 hlc F9 N9 hI9
  have hD : ndig n.toNat x ≤ 64 := ndig_le (by omega) (bits_pow hx hx2)
  have hlen9 : (digs n.toNat (ndig n.toNat x) x).length ≤ 64 := by rw [digs_length]; exact hD
  k_steps
  rename_i D9 ws9 h10 F10 N10 hI10 hC10 hL10 l10 kF kN Tc' kX
  rw [digs_pad _ (by omega) hx] at hI10
  refine hret c' oc' voc' t' D9 ws9 0 _ _ hoc hvoc hc1 hc2 (ktn_ltOf (by obtain ⟨_, _, _, _, _, _, h⟩ := l10; exact h)) (ltN (by omega)) (ltN (by omega)) (by k_asm) (News.sub kN ?_) hI10
  refine List.forall_mem_cons.mpr ⟨?m1, List.forall_mem_cons.mpr ⟨?m2, List.forall_mem_cons.mpr ⟨?m3, ?m4⟩⟩⟩
  case m1 => k_mem
  case m2 => k_mem
  case m3 => k_mem
  case m4 => exact fun p hp => .tail _ (.tail _ (.tail _ (.tail _ (.tail _ (.tail _ (.tail _ hp))))))
theorem lawdig_hit (w : World) (mean : ExcName → Option Value) (mg mb : Str → Option Value) :
  ∀ (dp un : Nat) (gd : Option (List Code)) (cn : Str) (cs : Scope) (a : Addr) (ccd : Value) (cl : List (Str × Addr)) (outer : List Env) (A₀ : Around) (base h₀ : Heap) (L : Addr) (m : Str → Option Value) (rest : List (Addr × Obj)) (s : Shared) (x n c : Int) (tx tn tc : Tok) (cc : Addr) (occ : Obj) (vcc : Array Value) (tcc : Tok)
    (Q E : Value → Shared → Prop),
    Below A₀ base outer h₀ → Fr h₀ L s.heap m → (Mine.hd.heap_39 w.params).In h₀ → News h₀ L s.heap ((30, tabObj #[rawInt 32, rawInt 4, .ref cc]) :: (cc, occ) :: rest) → Top VW LO mean mg mb h₀ → cs.kind = .function → CodeHd base 34 30 →
    (∀ q ∈ rest, q.1 ≠ 30) → 0 ≤ x → 0 < n → n ≤ 100000 → x < 2 ^ (64 * n.toNat) → 0 ≤ c → c ≤ 64 → occ.data = .fields vcc → vcc[1]? = some (.str (Str.ofString "_int2digits.<locals>.inner") tcc) → cc ≠ 30 →
    dp + 12 < recursionLimit → un + 96 < cLine →
    (∀ l' vs' k' h' tk', (∀ q ∈ rest, q.1 < l') → 30 < l' → cc < l' → Fr h₀ L h' m → News h₀ L h' ((l', listOf vs'.toArray k') :: (30, tabObj #[rawInt 32, rawInt 4, .ref cc]) :: (cc, occ) :: rest) → IntsAre vs' (digs n.toNat c.toNat x) → Q (.ref l') { s with heap := h', toks := tk' }) →
    wpAny (model PySem.Challenge.rw_ph0116_01.row.prog w) (ktrTop dp un gd cn cs L a ccd cl outer) (call (.ref 87) [.int x tx, .int n tn, .int c tc]) Q E s := by
  k_fill
  intro dp un gd cn cs a ccd cl outer A₀ base h₀ L m rest s x n c tx tn tc cc occ vcc tcc Q E B F X N T hk C30 hne hx hn hn2 hx2 hc0 hc64 hcc1 hcc2 hcc3 hd hu hret
  have C30' := C30
  refine wpAny_call ?_
  k_dflt (first | (refine' code_nest ?k1 ?k2 ?k3 ?k4 ?k5 ?kA ?kF ?kK ?k6 ?k7 ?k8 ?k9 ?kB ?_ ?c2 ?c3 ?c4 ?c5; (case kA => exact rfl); (case kF => exact rfl); (case kK => first | exact rfl | assumption); (case k1 => k_asm); (case k2 => k_asm); (case k3 => k_asm); (case k4 => k_asm); (case k5 => k_asm); (case k6 => k_mem); (case k7 => exact codeRec_news (by k_asm) (by k_mem) (by assumption) (by assumption)); (case k8 => ktr_room); (case k9 => exact BindsTo.of_eq rfl); (case c5 => decide); (case kB => exact locs rfl); (case c2 => exact rfl); (case c3 => exact rfl); (case c4 => exact rfl); k_whole; intro g' L' h' FG' F' N' B' X' T'; (try dsimp only); (try k_lift B'); (try k_fold)) | (refine' code_defC ?k1 ?k2 ?k3 ?k4 ?k5 ?kA ?kF ?kK ?k6 ?k7 ?k8 ?k9 ?kB ?kD ?_ ?c2 ?c3 ?c4; (case kA => exact rfl); (case kF => exact rfl); (case kK => first | exact rfl | assumption); (case k1 => k_asm); (case k2 => k_asm); (case k3 => k_asm); (case k4 => k_asm); (case k5 => k_asm); (case k6 => k_is); (case k7 => k_is); (case k8 => ktr_room); (case k9 => exact BindsTo.of_eq rfl); (case kB => exact rfl); (case kD => decide +kernel); (case c2 => exact rfl); (case c3 => exact rfl); (case c4 => exact rfl); k_whole; intro g' L' h' tk' cells' FG' F' N' Y' B' X' T' l1; (try k_lt l1); k_cells Y'; (try simp only [List.cons_append, List.nil_append] at N'); (try dsimp only); (try k_lift B'); (try k_fold)) | ktr_enter)
  k_steps
  k_dflt (refine' i2d_hit w mean mg mb _ _ _ _ _ _ _ _ _ _ _ _ _ _ _ _ _ _ _ _ _ _ _ _ _ _ ?b1 ?b2 ?b3 ?b4 ?b5 ?b6 C30' hne hx hn hn2 hx2 hcc1 hcc2 hcc3 ?b13 ?b14 ?_)
  case b1 => k_asm
  case b2 => k_asm
  case b3 => k_asm
  case b4 => k_asm
  case b5 => k_asm
  case b6 => exact rfl
  case b13 => first | omega | ktr_room
  case b14 => first | omega | ktr_units
  intro l' vs' k' h9 tk9 hl1 hl2 hlc F9 N9 hI9
  have hD : ndig n.toNat x ≤ 64 := ndig_le (by omega) (bits_pow hx hx2)
  have hlen9 : (digs n.toNat (ndig n.toNat x) x).length ≤ 64 := by rw [digs_length]; exact hD
  k_steps
  rename_i D9 ws9 h10 F10 N10 hI10 hC10 hL10 l10 kF kN Tc' kX
  rw [digs_pad _ (by omega) hx] at hI10
  refine hret D9 ws9 0 _ _ (ktn_ltOf (by obtain ⟨_, _, _, _, _, _, h⟩ := l10; exact h)) (ltN (by omega)) (ltN (by omega)) (by k_asm) (News.sub kN ?_) hI10
  refine List.forall_mem_cons.mpr ⟨?m1, List.forall_mem_cons.mpr ⟨?m2, List.forall_mem_cons.mpr ⟨?m3, ?m4⟩⟩⟩
  case m1 => k_mem
  case m2 => k_mem
  case m3 => k_mem
  case m4 => exact fun p hp => .tail _ (.tail _ (.tail _ (.tail _ (.tail _ (.tail _ (.tail _ hp))))))
end
section
theorem off_C5 : True := by
  w_top off
  trivial
open PySem PySem.W PySem.Spec PySem.Calls PyProof.Rows
set_option Elab.async false
set_option maxRecDepth 100000
set_option maxHeartbeats 8000000
def Hold5 (P : Prop) : Prop := P
theorem hold5 {P : Prop} (h : Hold5 P) : P := h
local macro_rules | `(tactic| walk_at "exec For Name Call cons nil") => `(tactic| (k_here; refine hold5 ?_))
local macro_rules | `(tactic| walk_at "call builtin:list.reverse") => `(tactic| (k_here; refine hold5 ?_))
theorem divmod_pos (w : World) (mean : ExcName → Option Value) (mg mb : Str → Option Value) :
  ∀ (dp un : Nat) (gd : Option (List Code)) (cn : Str) (cs : Scope) (a : Addr) (ccd : Value) (cl : List (Str × Addr)) (outer : List Env) (A₀ : Around) (base h₀ : Heap) (L : Addr) (m : Str → Option Value) (rest : List (Addr × Obj)) (s : Shared) (x b k : Int) (tx tb : Tok) (c30 c37 : Addr) (o30 o37 : Obj) (v30 v37 : Array Value) (t30 t37 : Tok)
    (Q E : Value → Shared → Prop),
    Below A₀ base outer h₀ → Fr h₀ L s.heap m → (Mine.hd.heap_39 w.params).In h₀ → News h₀ L s.heap ((30, tabObj #[rawInt 32, rawInt 4, .ref c30]) :: (c30, o30) :: (37, tabObj #[rawInt 47, rawInt 4, .ref c37]) :: (c37, o37) :: rest) → Top VW LO mean mg mb h₀ → cs.kind = .function → CodeHd base 34 30 → CodeHd base 41 37 →
    o30.data = .fields v30 → v30[1]? = some (.str (Str.ofString "_int2digits.<locals>.inner") t30) → o37.data = .fields v37 → v37[1]? = some (.str (Str.ofString "_digits2int.<locals>.inner") t37) →
    c30 ≠ 30 → c30 ≠ 37 → c37 ≠ 30 → c37 ≠ 37 → c30 ≠ c37 → rest ≠ [] → (∀ q ∈ rest, q.1 ≠ 30 ∧ q.1 ≠ 37 ∧ q.1 ≠ c30 ∧ q.1 ≠ c37) → 
    x = k * b → 1 ≤ k → k ≤ 4 → 0 < b → b < 2 ^ 4000 →
    dp + 12 < recursionLimit → un + 96 < cLine →
    (∀ l' t t' h' tk', Fr h₀ L h' m → News h₀ L h' ((l', { cls := .type "tuple", data := .seq #[.int k t, .int 0 t'] }) :: (30, tabObj #[rawInt 32, rawInt 4, .ref c30]) :: (c30, o30) :: (37, tabObj #[rawInt 47, rawInt 4, .ref c37]) :: (c37, o37) :: rest) → (∀ q ∈ (30, tabObj #[rawInt 32, rawInt 4, .ref c30]) :: (c30, o30) :: (37, tabObj #[rawInt 47, rawInt 4, .ref c37]) :: (c37, o37) :: rest, q.1 < l') → Q (.ref l') { s with heap := h', toks := tk' }) →
    wpAny (model PySem.Challenge.rw_ph0116_01.row.prog w) (ktrTop dp un gd cn cs L a ccd cl outer) (call (.ref 49) [.int x tx, .int b tb]) Q E s := by
  k_fill
  intro dp un gd cn cs a ccd cl outer A₀ base h₀ L m rest s x b k tx tb c30 c37 o30 o37 v30 v37 t30 t37 Q E B F X N T hk C30 C37 h30a h30b h37a h37b n1 n2 n3 n4 n5 hrn hne hxk hk1 hk4 hb0 hb1 hd hu hret
  have hx : 0 ≤ x := by rw [hxk]; exact Int.mul_nonneg (by omega) (by omega)
  obtain ⟨⟨az, oz⟩, hz, hzl⟩ := lastOf hrn
  obtain ⟨z30, z37, zc30, zc37⟩ := hne _ hz
  have NS := firstFive N hz
  refine wpAny_call ?_
  k_dflt (refine' enter_keep ?k1 ?k2 ?k3 NS ?k5 ?kA ?kF ?kK ?k6 ?k7 ?k8 ?k9 ?kB ?_ ?c2 ?c3 ?c4 ?c5; (case kA => exact rfl); (case kF => exact rfl); (case kK => first | exact rfl | assumption); (case k1 => k_asm); (case k2 => k_asm); (case k3 => k_asm); (case k5 => k_asm); (case k6 => k_is); (case k7 => k_is); (case k8 => ktr_room); (case k9 => exact BindsTo.of_eq rfl); (case c5 => decide); (case kB => exact locs rfl); (case c2 => exact rfl); (case c3 => exact rfl); (case c4 => exact rfl); k_whole; intro g' L' h' kp' hL' FG' F' N' B' X' T'; (try dsimp only); (try k_lift B'); (try k_fold))
  have n6 : (30 : Nat) ≠ 37 := by decide
  clear NS
  k_steps
  have C30' := C30
  have C37' := C37
  have hbits : Builtin.Int.intBits b ≤ 4000 := bits_of_lt (by omega) hb1
  have hbp := bits_pos hb0
  have hx2 : x < 2 ^ (64 * (Builtin.Int.intBits b : Int).toNat) := quot_lt hb0 hxk hk4
  k_dflt (refine' i2d_hit w mean mg mb _ _ _ _ _ _ _ _ _ _ _ _ _ _ _ _ _ _ _ _ _ _ _ _ _ _ ?b1 ?b2 ?b3 ?b4 ?b5 ?b6 C30' ?b8 hx ?b10 ?b11 hx2 h30a h30b n1 ?b16 ?b17 ?_)
  case b1 => k_asm
  case b2 => k_asm
  case b3 => k_asm
  case b4 => k_asm
  case b5 => k_asm
  case b6 => exact rfl
  case b8 => exact List.forall_mem_cons.mpr ⟨n6.symm, List.forall_mem_cons.mpr ⟨n3, List.forall_mem_cons.mpr ⟨z30, List.forall_mem_nil _⟩⟩⟩
  case b10 => omega
  case b11 => omega
  case b16 => first | omega | ktr_room
  case b17 => first | omega | ktr_units
  intro l' vs' k' h9 tk9 hl1 hl2 hl3 F9 N9 hI9
  obtain ⟨hl5, hl6⟩ := List.forall_mem_cons.mp hl1
  obtain ⟨hl8, hl9⟩ := List.forall_mem_cons.mp hl6
  obtain ⟨hlz, hl10⟩ := List.forall_mem_cons.mp hl9
  clear hl9 hl6 hl1 hl10
  have hvl : vs'.length = ndig (Builtin.Int.intBits b : Int).toNat x := by rw [hI9.length, digs_length]
  have hT3 : 0 < ndig (Builtin.Int.intBits b : Int).toNat x ∧ ndig (Builtin.Int.intBits b : Int).toNat x ≤ 3 := by rcases quot_ndig hb0 hxk hk1 hk4 with h | h | h <;> rw [h] <;> decide
  have hs9 : (0 : Int) ≤ (Builtin.Int.intBits b : Int) := by omega
  have hxT : x / 2 ^ (Builtin.Int.intBits b * ndig (Builtin.Int.intBits b : Int).toNat x) = 0 := by
    have := lt_ndig hx hb0 (d := ndig (Builtin.Int.intBits b : Int).toNat x) rfl
    rw [Int.toNat_natCast] at this ⊢
    exact Int.ediv_eq_zero_of_lt hx this
  k_steps
  unfold Hold5
  refine wpAny_For ?_ (by intro _; rfl)
  k_steps
  rename_i hA hB hC DQ hD lQ hE I hF F8 N8 lI
  obtain ⟨q1, q2, q3, q4, q5, q6⟩ := lQ
  obtain ⟨i0, i1, i2, i3, i4, i5, i6⟩ := lI
  have hapD : ∀ q ∈ (l', listOf vs'.toArray k') :: (30, tabObj #[rawInt 32, rawInt 4, .ref c30]) :: (c30, o30) :: (37, tabObj #[rawInt 47, rawInt 4, .ref c37]) :: (c37, o37) :: [(az, oz)], q.1 ≠ DQ :=
    List.forall_mem_cons.mpr ⟨Nat.ne_of_lt q1, List.forall_mem_cons.mpr ⟨Nat.ne_of_lt q2, List.forall_mem_cons.mpr ⟨Nat.ne_of_lt q3, List.forall_mem_cons.mpr ⟨Nat.ne_of_lt q4, List.forall_mem_cons.mpr ⟨Nat.ne_of_lt q5, List.forall_mem_cons.mpr ⟨Nat.ne_of_lt q6, List.forall_mem_nil _⟩⟩⟩⟩⟩⟩
  have hapI : Ap I ((DQ, listOf #[] 0) :: (l', listOf vs'.toArray k') :: (30, tabObj #[rawInt 32, rawInt 4, .ref c30]) :: (c30, o30) :: (37, tabObj #[rawInt 47, rawInt 4, .ref c37]) :: (c37, o37) :: [(az, oz)]) :=
    List.forall_mem_cons.mpr ⟨Nat.ne_of_lt i0, List.forall_mem_cons.mpr ⟨Nat.ne_of_lt i1, List.forall_mem_cons.mpr ⟨Nat.ne_of_lt i2, List.forall_mem_cons.mpr ⟨Nat.ne_of_lt i3, List.forall_mem_cons.mpr ⟨Nat.ne_of_lt i4, List.forall_mem_cons.mpr ⟨Nat.ne_of_lt i5, List.forall_mem_cons.mpr ⟨Nat.ne_of_lt i6, List.forall_mem_nil _⟩⟩⟩⟩⟩⟩⟩
  obtain ⟨BS, hBS⟩ : ∃ BS, BS = (30, tabObj #[rawInt 32, rawInt 4, .ref c30]) :: (c30, o30) :: (37, tabObj #[rawInt 47, rawInt 4, .ref c37]) :: (c37, o37) :: [(az, oz)] := ⟨_, rfl⟩
  rw [← hBS] at hapD hapI
  rw [← hBS] at N8
  obtain ⟨nb, hnb⟩ : ∃ nb, nb = Builtin.Int.intBits b := ⟨_, rfl⟩
  obtain ⟨T9, hT9⟩ : ∃ T9, T9 = ndig nb x := ⟨_, rfl⟩
  rw [Int.toNat_natCast, ← hnb, ← hT9] at hI9 hvl hT3
  rw [Int.toNat_natCast, ← hnb, ← hT9] at hxT
  k_dflt (refine' for_rev (nn := k') (vs := vs') (fun j m made => ∃ (r : Int) (tr : Tok) (qv : List Value) (kq : Nat) (qs : List Int) (tb tn : Tok) (mm : Str → Option Value), m = mD DQ b (Builtin.Int.intBits b : Int) r tb tn tr mm ∧ made = (DQ, listOf qv.toArray kq) :: (l', listOf vs'.toArray k') :: BS ∧ IntsAre qv qs ∧ (∀ q ∈ qs, 0 ≤ q ∧ q < 2 ^ nb) ∧ qs.length = j ∧ 0 ≤ r ∧ r < b ∧ dsum nb qs.reverse * b + r = x / 2 ^ (nb * (T9 - j))) rfl ?e1 ?e2 ?e3 ?e4 ?e5 F8 N8 hapI ?e6 ?eE ?turn ?done)
  case e1 => exact rfl
  case e2 => exact .tail _ (.head _)
  case e3 => rintro j m made ⟨r, tr, qv, kq, qs, tb, tn, mm, _, rfl, _⟩; exact .tail _ (.head _)
  case e4 => exact rfl
  case e5 => exact rfl
  case e6 => exact ⟨0, _, [], 0, [], _, _, _, mD_self rfl rfl rfl rfl, rfl, .nil, (fun q hq => (nomatch hq)), rfl, Int.le_refl 0, hb0, by rw [Nat.sub_zero, hxT]; exact (Int.add_zero _).trans (Int.zero_mul _)⟩
  case eE => exact (show PassesOwn _ _ _ _ by passes_own)
  case turn =>
    rintro j v m₁ news sK oI ⟨hh3, tk3, rfl⟩ hv ⟨r, tr, qv, kq, qs, tb2, tn2, mm, rfl, rfl, hIq, hqs, hql, hr0, hr1, hH⟩ F9 N9 apI
    obtain ⟨m, tv, hm1, hm2, rfl⟩ := rev_digit hI9 hv
    unfold mD at F9
    dsimp only at F9 N9
    have hr2 : (Builtin.Int.intBits r : Int) + (Builtin.Int.intBits b : Int) ≤ 2 ^ 27 := by
      have := bits_of_lt hr0 (Int.lt_trans hr1 hb1)
      omega
    k_steps
    k_dflt (refine' div_step w mean mg mb _ _ _ _ _ _ _ _ _ _ _ _ _ _ _ _ _ _ _ _ _ _ _ _ ?b1 ?b2 ?b3 ?b4 ?b5 ?b6 hb0 hb1 hr0 hr1 ?b7 ?b8 ?b9 ?b10 ?_)
    case b1 => k_asm
    case b2 => k_asm
    case b3 => k_asm
    case b4 => k_asm
    case b5 => k_asm
    case b6 => exact rfl
    case b7 => exact (low_lt _).1
    case b8 => rw [← hnb]; exact (low_lt _).2
    case b9 => first | omega | ktr_room
    case b10 => first | omega | ktr_units
    intro q r9 e9 p1 p2 p3 p4 l0 h0 t0 u0 tk0 F0 N0 hl0
    k_steps
    rename News _ _ _ _ => N10
    rename Fr _ _ _ _ => F10
    have hqz : qv.toArray.size ≤ sizeLine := by
      rw [List.size_toArray, hIq.length, hql]
      exact Nat.le_trans (by omega : j ≤ 3) (by decide +kernel)
    k_dflt (refine' append_head (hsz := hqz) F10 (news_sw N10) (List.forall_mem_cons.mpr ⟨Nat.ne_of_gt i0, hapD⟩) ?_)
    intro h14 F14 N14
    have hpush : ({ cls := .type "list", data := .seq (qv.toArray.push (Value.int q t0)) (kq + 1) } : Obj) = listOf (qv ++ [Value.int q t0]).toArray (kq + 1) := by rw [List.push_toArray]
    rw [hpush] at N14
    k_steps
    rename News _ _ _ _ => N15
    refine ⟨⟨_, _, rfl⟩, _, (DQ, listOf (qv ++ [Value.int q t0]).toArray (kq + 1)) :: (l', listOf vs'.toArray k') :: BS, (by k_asm), news_sw2 N15, List.forall_mem_cons.mpr ⟨Nat.ne_of_lt i0, fun q hq => apI q (.tail _ hq)⟩, r9, _, _, _, qs ++ [q], _, _, _, mD_self rfl rfl rfl rfl, rfl, ints_append hIq (.cons _ _ .nil), ?_, ?_, p1, p2, ?_⟩
    · exact fun y hy => (List.mem_append.mp hy).elim (hqs y) fun h => by rw [List.mem_singleton.mp h, hnb]; exact ⟨p3, p4⟩
    · rw [List.length_append, hql]; rfl
    · rw [hm1] at hH
      rw [hm2]
      subst hnb
      exact horner hH e9
  case done =>
    rintro sL m₁ made ⟨hh3, tk3, rfl⟩ ⟨r, tr, qv, kq, qs, tb2, tn2, mm, rfl, rfl, hIq, hqs, hql, hr0, hr1, hH⟩ F9 N9
    unfold mD at F9
    dsimp only at F9 N9
    k_steps
    rename News _ _ _ _ => N10
    rename Fr _ _ _ _ => F10
    have hqz : qv.length ≤ sizeLine := by
      rw [hIq.length, hql, hvl]
      exact Nat.le_trans hT3.2 (by decide +kernel)
    have hfin : dsum nb qs.reverse = k ∧ r = 0 := by
      rw [hvl, Nat.sub_self, Nat.mul_zero, Int.pow_zero, Int.ediv_one, hxk] at hH
      exact dm_uniq hb0 hH hr0 hr1
    unfold Hold5
    k_dflt (refine' reverse_head F10 N10 hapD hqz ?_)
    intro h14 F14 N14
    subst hBS hnb
    k_steps
    rename News _ _ _ _ => N15
    k_dflt (refine' d2i_hit w mean mg mb _ _ _ _ _ _ _ _ _ _ _ _ _ _ _ _ _ _ _ _ _ _ _ _ _ _ _ _ ?d1 ?d2 ?d3 (reordR N15) ?d5 ?d6 C37' ?d7 ?d8 (ints_rev hIq) hs9 ?d9 ?d10 ?d11 ?d12 h37a h37b n4 ?d13 ?d14 ?_)
    case d1 => k_asm
    case d2 => k_asm
    case d3 => k_asm
    case d5 => k_asm
    case d6 => exact rfl
    case d7 => exact Nat.ne_of_gt q4
    case d8 => exact List.forall_mem_cons.mpr ⟨n6, List.forall_mem_cons.mpr ⟨n2, List.forall_mem_cons.mpr ⟨z37, List.forall_mem_nil _⟩⟩⟩
    case d9 => omega
    case d10 =>
      rw [Int.toNat_natCast]
      exact fun y hy => hqs y (List.mem_reverse.mp hy)
    case d11 => rw [List.length_reverse, hql, hvl]; exact hT3.1
    case d12 => rw [List.length_reverse, hql, hvl]; exact Nat.le_trans hT3.2 (by decide)
    case d13 => first | omega | ktr_room
    case d14 => first | omega | ktr_units
    intro h9 t9 tk9 F9 N9
    rw [Int.toNat_natCast, hfin.1]
    k_steps
    rename_i D9 h10 F11 N11 l10 kF kN Tc kX
    obtain ⟨_, rfl⟩ := hfin
    exact hret D9 t9 _ h10 _ kF (dm_news N hz kp' F11 kN hne) (dm_fresh l10.2.2.2.1 l10.2.2.2.2.1 l10.1 l10.2.1 l10.2.2.2.2.2 hzl)
end
section
theorem off_C7 : True := by
  w_top off
  trivial
open PySem PySem.W PySem.Spec PySem.Calls PyProof.Rows
set_option Elab.async false
set_option maxRecDepth 100000
set_option maxHeartbeats 8000000
theorem rows_spec (w : World) (mean : ExcName → Option Value) (mg mb : Str → Option Value) :
  ∀ (c : Nat) (dp un : Nat) (gd : Option (List Code)) (cn : Str) (cs : Scope) (a : Addr) (ccd : Value) (cl : List (Str × Addr)) (outer : List Env) (A₀ : Around) (base h₀ : Heap) (L : Addr) (m : Str → Option Value) (news : List (Addr × Obj)) (s : Shared) (t : Int) (tc tt : Tok)
    (Q E : Value → Shared → Prop),
    Below A₀ base outer h₀ → Fr h₀ L s.heap m → (Mine.hd.heap_39 w.params).In h₀ → News h₀ L s.heap news → Top VW LO mean mg mb h₀ → cs.kind = .function →
    c ≤ 4 → 0 ≤ t → t ≤ 3 →
    dp + c + 2 < recursionLimit → un + 8 * (c + 2) < cLine →
    (∀ l vs k own h' tk', Fr h₀ L h' m → News h₀ L h' ((l, listOf vs.toArray k) :: (own ++ news)) → RowVals own vs (rowsL c t) → (∀ q ∈ news, @LT.lt Nat _ q.1 l) → (∀ p ∈ own, ∀ q ∈ news, @LT.lt Nat _ q.1 p.1) → Ap l own → Q (.ref l) { s with heap := h', toks := tk' }) →
    wpAny (model PySem.Challenge.rw_ph0116_01.row.prog w) (ktrTop dp un gd cn cs L a ccd cl outer) (call (.ref 75) [.int c tc, .int t tt]) Q E s := by
  k_fill
  intro c
  induction c with
  | zero =>
    intro dp un gd cn cs a ccd cl outer A₀ base h₀ L m news s t tc tt Q E B F X N T hk hc ht0 ht3 hd hu hret
    refine wpAny_call ?_
    k_dflt (first | (refine' code_nest ?k1 ?k2 ?k3 ?k4 ?k5 ?kA ?kF ?kK ?k6 ?k7 ?k8 ?k9 ?kB ?_ ?c2 ?c3 ?c4 ?c5; (case kA => exact rfl); (case kF => exact rfl); (case kK => first | exact rfl | assumption); (case k1 => k_asm); (case k2 => k_asm); (case k3 => k_asm); (case k4 => k_asm); (case k5 => k_asm); (case k6 => k_mem); (case k7 => exact codeRec_news (by k_asm) (by k_mem) (by assumption) (by assumption)); (case k8 => ktr_room); (case k9 => exact BindsTo.of_eq rfl); (case c5 => decide); (case kB => exact locs rfl); (case c2 => exact rfl); (case c3 => exact rfl); (case c4 => exact rfl); k_whole; intro g' L' h' FG' F' N' B' X' T'; (try dsimp only); (try k_lift B'); (try k_fold)) | (refine' code_defC ?k1 ?k2 ?k3 ?k4 ?k5 ?kA ?kF ?kK ?k6 ?k7 ?k8 ?k9 ?kB ?kD ?_ ?c2 ?c3 ?c4; (case kA => exact rfl); (case kF => exact rfl); (case kK => first | exact rfl | assumption); (case k1 => k_asm); (case k2 => k_asm); (case k3 => k_asm); (case k4 => k_asm); (case k5 => k_asm); (case k6 => k_is); (case k7 => k_is); (case k8 => ktr_room); (case k9 => exact BindsTo.of_eq rfl); (case kB => exact rfl); (case kD => decide +kernel); (case c2 => exact rfl); (case c3 => exact rfl); (case c4 => exact rfl); k_whole; intro g' L' h' tk' cells' FG' F' N' Y' B' X' T' l1; (try k_lt l1); k_cells Y'; (try simp only [List.cons_append, List.nil_append] at N'); (try dsimp only); (try k_lift B'); (try k_fold)) | ktr_enter)
    k_steps
    · rename_i a9 l1 h1 m1 l2 h2 F2 N2 m2 kF kN Tc kX
      have e : rowsL 0 t = [[]] := by show (if t = 0 then _ else _) = _; rw [if_pos a9]
      refine hret l2 [.ref l1] 0 [(l1, listOf #[] 0)] _ _ kF (News.sub kN ?_) (by rw [e]; exact .cons (ws := []) (k := 0) (.head _) .nil .nil) ?_ ?_ ?_
      · exact List.forall_mem_cons.mpr ⟨by k_mem, List.forall_mem_cons.mpr ⟨by k_mem, fun p hp => .tail _ (.tail _ (.tail _ (.tail _ hp)))⟩⟩
      · exact ktn_ltOf m2.2.2.2
      · intro p hp
        rw [List.mem_singleton.mp hp]
        exact ktn_ltOf m1.2.2
      · intro p hp
        rw [List.mem_singleton.mp hp]
        exact Nat.ne_of_lt m2.1
    · rename_i a9 l2 h2 F2 N2 m2 kF kN Tc kX
      have e : rowsL 0 t = [] := by show (if t = 0 then _ else _) = _; rw [if_neg a9]
      refine hret l2 [] 0 [] _ _ kF (News.sub kN ?_) (by rw [e]; exact .nil) ?_ (fun p hp => nomatch hp) (fun p hp => nomatch hp)
      · exact List.forall_mem_cons.mpr ⟨by k_mem, fun p hp => .tail _ (.tail _ (.tail _ hp))⟩
      · exact ktn_ltOf m2.2.2
  | succ c ih =>
    intro dp un gd cn cs a ccd cl outer A₀ base h₀ L m news s t tc tt Q E B F X N T hk hc ht0 ht3 hd hu hret
    refine wpAny_call ?_
    k_dflt (first | (refine' code_nest ?k1 ?k2 ?k3 ?k4 ?k5 ?kA ?kF ?kK ?k6 ?k7 ?k8 ?k9 ?kB ?_ ?c2 ?c3 ?c4 ?c5; (case kA => exact rfl); (case kF => exact rfl); (case kK => first | exact rfl | assumption); (case k1 => k_asm); (case k2 => k_asm); (case k3 => k_asm); (case k4 => k_asm); (case k5 => k_asm); (case k6 => k_mem); (case k7 => exact codeRec_news (by k_asm) (by k_mem) (by assumption) (by assumption)); (case k8 => ktr_room); (case k9 => exact BindsTo.of_eq rfl); (case c5 => decide); (case kB => exact locs rfl); (case c2 => exact rfl); (case c3 => exact rfl); (case c4 => exact rfl); k_whole; intro g' L' h' FG' F' N' B' X' T'; (try dsimp only); (try k_lift B'); (try k_fold)) | (refine' code_defC ?k1 ?k2 ?k3 ?k4 ?k5 ?kA ?kF ?kK ?k6 ?k7 ?k8 ?k9 ?kB ?kD ?_ ?c2 ?c3 ?c4; (case kA => exact rfl); (case kF => exact rfl); (case kK => first | exact rfl | assumption); (case k1 => k_asm); (case k2 => k_asm); (case k3 => k_asm); (case k4 => k_asm); (case k5 => k_asm); (case k6 => k_is); (case k7 => k_is); (case k8 => ktr_room); (case k9 => exact BindsTo.of_eq rfl); (case kB => exact rfl); (case kD => decide +kernel); (case c2 => exact rfl); (case c3 => exact rfl); (case c4 => exact rfl); k_whole; intro g' L' h' tk' cells' FG' F' N' Y' B' X' T' l1; (try k_lt l1); k_cells Y'; (try simp only [List.cons_append, List.nil_append] at N'); (try dsimp only); (try k_lift B'); (try k_fold)) | ktr_enter)
    k_steps
    have a9 : (((c + 1 : Nat) : Int) ≠ 0) := by omega
    rw [eval_ListComp]
    refine wpAny_comprehension_free (g := ⟨_, _, [], 0⟩) (gs := [⟨_, _, [], 0⟩]) rfl (by intro _; rfl) (by with_unfolding_all rfl) (by rfl) (by decide +kernel) ?_
    show wpAny _ _ (eval _ _) _ _ _
    k_steps
    rename IsRange _ _ _ _ _ _ _ _ => hr
    rename_i o1 o2 e1 e2 h3 tk3 F3 N3 h4 tk4 u1 u2 u3 F4 N4 k4
    rw [if_neg (by omega)] at hr
    obtain ⟨hs1, hs2⟩ := small_of ht0 ht3
    refine wpAny_pyIter_range hr hs1 ?_
    rw [hs2]
    have NI : ∀ q ∈ (L' + 1 + 1, o1) :: (L' + 1, o2) :: news, @LT.lt Nat _ q.1 h4.objs.size := fun q hq => Heap.lt_size (N4 q hq).1
    have hL4 : L' < h4.objs.size := F4.ns.lt
    have FI : Fr g' L' (h4.push { cls := .type "range_iterator", data := .fields #[rawInt 0, rawInt (((min t 3).toNat + 1 : Nat) : Int), rawInt 1] }) _ := F4.push _
    have NI4 : News g' L' (h4.push { cls := .type "range_iterator", data := .fields #[rawInt 0, rawInt (((min t 3).toNat + 1 : Nat) : Int), rawInt 1] }) ((L' + 1 + 1, o1) :: (L' + 1, o2) :: news) := fun q hq => ⟨Heap.get?_push_of_some _ (N4 q hq).1, (N4 q hq).2⟩
    k_dflt (refine' comp_block (n := (min t 3).toNat + 1) (J := JR c t ((L' + 1 + 1, o1) :: (L' + 1, o2) :: news)) (J' := JR' c t ((L' + 1 + 1, o1) :: (L' + 1, o2) :: news)) ?a1 (JR'_bd (by omega)) ?a2 ?a3 ?a4 ?a5 ?a6 ?a7 ?a8 FI NI4 ?a9 ?a10 ?t1 ?t2 JR_link ?a11 ?_)
    case a1 => exact rfl
    case a2 => intro _ _; rfl
    case a3 => decide +kernel
    case a4 => decide +kernel
    case a5 => decide +kernel
    case a6 => exact rfl
    case a7 => decide +kernel
    case a8 => exact ⟨Heap.get?_none_of_le (Nat.le_trans F4.above (Nat.le_of_lt hL4)), Nat.ne_of_gt hL4⟩
    case a9 => exact fun q hq => Nat.ne_of_lt (NI q hq)
    case a10 => exact Heap.get?_push_size _ rfl
    case a11 => exact ⟨[], rfl, by rw [rowsTo_zero]; exact .nil, fun p hp => nomatch hp⟩
    case t1 =>
      intro C D i ys made oI oC m₂ ti h tk hDC hID hnl hlt hJ hNs hm F9 N9 apI apC apD
      obtain ⟨own, rfl, hR, hA⟩ := hJ
      have N9' : News g' L' h ((C, oC) :: (D, LCg.lst ys) :: (h4.objs.size, oI) :: (L' + 1 + 1, o1) :: (L' + 1, o2) :: (own ++ news)) := News.sub N9 sub_t1
      k_steps
      have ec : ((c + 1 : Nat) : Int) - 1 = (c : Int) := by omega
      rw [ec]
      k_dflt (refine' ih _ _ _ _ _ _ _ _ _ _ _ _ _ _ _ _ _ _ _ _ _ ?b1 ?b2 ?b3 ?b4 ?b5 ?b6 ?b7 ?b8 ?b9 ?b10 ?b11 ?_)
      case b1 => k_asm
      case b2 => k_asm
      case b3 => k_asm
      case b4 => k_asm
      case b5 => k_asm
      case b6 => exact rfl
      case b7 => omega
      case b8 => omega
      case b9 => omega
      case b10 => first | omega | ktr_room
      case b11 => first | omega | ktr_units
      intro l vs k own2 h9 tk9 F10 N10 hR10 hl10 ho10 hap10
      k_steps
      refine ⟨l, vs, k, ((l, listOf vs.toArray k) :: (own2 ++ own)) ++ ((L' + 1 + 1, o1) :: (L' + 1, o2) :: news), _, _, rfl, rfl, (by k_asm), News.sub N10 sub_t1b, ?_, ?_, ?_, .head _, (l, listOf vs.toArray k) :: (own2 ++ own), rfl, by omega, hR.mono (fun p hp => .tail _ (List.mem_append_right _ hp)), hR10.mono (fun p hp => .tail _ (List.mem_append_left _ hp)), ?_⟩
      · exact ap_grow (a := (h4.objs.size, oI)) hl10 ho10 (.tail _ (.tail _ (.head _))) apI
      · exact ap_grow (a := (C, oC)) hl10 ho10 (.head _) apC
      · exact ap_grow (a := (D, LCg.lst ys)) hl10 ho10 (.tail _ (.head _)) apD
      · exact above_grow hl10 ho10 sub_t1c hA
    case t2 =>
      intro C D i j ti v ys made l ws nn Jt oI oC oJ m₂ h tk hDC hID hnl hlt hJ hv hNs hm1 hm2 F9 N9 hl apI apC apD apJ
      obtain ⟨own, rfl, hi, hR, hW, hA⟩ := hJ
      obtain ⟨r, wr, kr, row, rfl, hrow, hmr, hIr⟩ := hW.get hv
      have hmr2 : (r, (listOf wr.toArray kr : Obj)) ∈ own ++ news := List.mem_append_left _ hmr
      have hl2 : (l, (listOf ws.toArray nn : Obj)) ∈ own ++ ((L' + 1 + 1, o1) :: (L' + 1, o2) :: news) := hl
      have N9' : News g' L' h ((C, oC) :: (D, LCg.lst ys) :: (h4.objs.size, oI) :: (Jt, oJ) :: (L' + 1 + 1, o1) :: (L' + 1, o2) :: (own ++ news)) := News.sub N9 sub_t2
      k_steps
      rename News _ _ _ _ => NX
      have hwl := rowVals_row hrow hIr
      have hlt9 := news_lt NX
      k_dflt (refine' add_lists (vs := [.int i ti]) (ws := wr) ?b1 NX ?b3 ?b4 ?_ ?b5)
      case b1 => k_asm
      case b3 => exact ⟨_, (NX _ (.head _)).1, rfl, _, rfl⟩
      case b4 => exact ⟨_, (NX _ (.tail _ (.tail _ (.tail _ (.tail _ (.tail _ (.tail _ (.tail _ hmr2)))))))).1, rfl, _, rfl⟩
      case b5 =>
        rw [hwl, List.length_singleton]
        exact Nat.le_trans (by omega : 1 + c ≤ 5) (by decide +kernel)
      intro h7 F7 N7
      refine ⟨(((_, listOf ([Value.int i ti] ++ wr).toArray 0) :: own)) ++ ((L' + 1 + 1, o1) :: (L' + 1, o2) :: news), _, _, rfl, (by k_asm), News.sub N7 sub_t2b, ?_, ?_, ?_, ?_, (.tail _ hl), (_, listOf ([Value.int i ti] ++ wr).toArray 0) :: own, rfl, hi, ?_, hW.mono (fun p hp => .tail _ hp), ?_⟩
      · exact ap_one (hlt9 (h4.objs.size, oI) (.tail _ (.tail _ (.tail _ (.head _))))) apI
      · exact ap_one (hlt9 (C, oC) (.tail _ (.head _))) apC
      · exact ap_one (hlt9 (D, LCg.lst ys) (.tail _ (.tail _ (.head _)))) apD
      · exact ap_one (hlt9 (Jt, oJ) (.tail _ (.tail _ (.tail _ (.tail _ (.head _)))))) apJ
      · rw [rowsTo_step _ _ _ _ hrow]
        exact (hR.mono fun p hp => .tail _ hp).snoc (.head _) (.cons _ _ hIr)
      · intro p hp q hq
        rcases List.mem_cons.mp hp with rfl | hp
        · exact hlt9 q (sub_t2c q hq)
        · exact hA p hp q hq
    intro D ys made h tk hD F9 N9 apD hJ
    obtain ⟨own, rfl, hR, hA⟩ := hJ
    k_steps
    rename_i kF kN Tc kX
    rw [rowsTo_end] at hR
    refine hret D ys _ own _ _ kF (News.sub kN sub_two) hR (fun q hq => hD q (.tail _ (.tail _ hq))) (fun p hp q hq => hA p hp q (.tail _ (.tail _ hq))) (fun p hp => apD p (List.mem_append_left _ hp))
end
section
open PySem PySem.W PySem.Spec PySem.Calls PyProof.Rows
set_option Elab.async false
set_option maxRecDepth 100000
/-- the code's table: not yet filled, or filled with the inner def's code -/
def TabOk (nm : Str) (r1 r2 : Int) (ps : Array Value) (ex : List (Addr × Obj)) : Prop :=
  (ps = #[] ∧ ex = []) ∨ ∃ c o v t, ps = #[rawInt r1, rawInt r2, .ref c] ∧ ex = [(c, o)] ∧ o.data = .fields v ∧ v[1]? = some (.str nm t)
def Nd (l : List (Addr × Obj)) : Prop := l.Pairwise fun a b => @Ne Nat a.1 b.1
abbrev nm30 : Str := Str.ofString "_int2digits.<locals>.inner"
abbrev nm37 : Str := Str.ofString "_digits2int.<locals>.inner"
theorem Nd.perm {l l' : List (Addr × Obj)} (h : Nd l) (hp : l.Perm l') : Nd l' := (hp.pairwise_iff (fun h => Ne.symm h)).mp h
theorem Nd.sub {l l' : List (Addr × Obj)} (h : Nd l) (hp : l'.Sublist l) : Nd l' := List.Pairwise.sublist hp h
theorem Nd.new {l : List (Addr × Obj)} {p : Addr × Obj} (h : Nd l) (hp : ∀ q ∈ l, @LT.lt Nat _ q.1 p.1) : Nd (p :: l) := List.Pairwise.cons (fun q hq => Nat.ne_of_gt (hp q hq)) h
theorem Nd.swap {a b : Addr × Obj} {l : List (Addr × Obj)} (h : Nd (a :: l)) (e : a.1 = b.1) : Nd (b :: l) := by
  obtain ⟨h1, h2⟩ := List.pairwise_cons.mp h
  exact List.pairwise_cons.mpr ⟨fun q hq => by rw [← e]; exact h1 q hq, h2⟩
theorem Nd.head {a : Addr × Obj} {l : List (Addr × Obj)} (h : Nd (a :: l)) : ∀ q ∈ l, q.1 ≠ a.1 := fun q hq => Ne.symm ((List.pairwise_cons.mp h).1 q hq)
theorem Nd.tail {a : Addr × Obj} {l : List (Addr × Obj)} (h : Nd (a :: l)) : Nd l := (List.pairwise_cons.mp h).2
theorem d2i_any (w : World) (mean : ExcName → Option Value) (mg mb : Str → Option Value) :
  ∀ (dp un : Nat) (gd : Option (List Code)) (cn : Str) (cs : Scope) (a : Addr) (ccd : Value) (cl : List (Str × Addr)) (outer : List Env) (A₀ : Around) (base h₀ : Heap) (L : Addr) (m : Str → Option Value) (ps : Array Value) (ex rest : List (Addr × Obj)) (s : Shared) (l : Addr) (vs : List Value) (ns : List Int) (k : Nat) (n : Int) (tn : Tok)
    (Q E : Value → Shared → Prop),
    Below A₀ base outer h₀ → Fr h₀ L s.heap m → (Mine.hd.heap_39 w.params).In h₀ → News h₀ L s.heap ((37, tabObj ps) :: (ex ++ (l, listOf vs.toArray k) :: rest)) → Top VW LO mean mg mb h₀ → cs.kind = .function → CodeHd base 41 37 →
    TabOk nm37 47 4 ps ex → Nd ((37, tabObj ps) :: (ex ++ (l, listOf vs.toArray k) :: rest)) → IntsAre vs ns → 0 ≤ n → n ≤ 100000 → (∀ d ∈ ns, 0 ≤ d ∧ d < 2 ^ n.toNat) → 0 < ns.length → ns.length ≤ 64 →
    dp + 10 < recursionLimit → un + 80 < cLine →
    (∀ ps' ex' h' t tk', TabOk nm37 47 4 ps' ex' → ex' ≠ [] → Nd ((37, tabObj ps') :: (ex' ++ (l, listOf vs.toArray k) :: rest)) → Fr h₀ L h' m → News h₀ L h' ((37, tabObj ps') :: (ex' ++ (l, listOf vs.toArray k) :: rest)) → Q (.int (dsum n.toNat ns) t) { s with heap := h', toks := tk' }) →
    wpAny (model PySem.Challenge.rw_ph0116_01.row.prog w) (ktrTop dp un gd cn cs L a ccd cl outer) (call (.ref 42) [.ref l, .int n tn]) Q E s := by
  intro dp un gd cn cs a ccd cl outer A₀ base h₀ L m ps ex rest s l vs ns k n tn Q E B F X N T hk C37 hT hN hI hn hn2 hdig hpos h64 hd hu hret
  rcases hT with ⟨rfl, rfl⟩ | ⟨c, o, v, t, rfl, rfl, ho, hv⟩
  · have h1 := hN.head
    refine d2i_first w mean mg mb dp un gd cn cs a ccd cl outer A₀ base h₀ L m rest s l vs ns k n tn Q E B F X N T hk C37 (h1 _ (.head _)) (fun q hq => h1 q (.tail _ hq)) hI hn hn2 hdig hpos h64 hd hu ?_
    intro c' oc' vs' t' h' t tk' e1 e2 e3 e4 F' N'
    refine hret _ [(c', oc')] h' t tk' (.inr ⟨c', oc', vs', t', rfl, rfl, e1, e2⟩) (by simp) ?_ F' N'
    refine Nd.perm (l := (c', oc') :: (37, tabObj #[rawInt 47, rawInt 4, .ref c']) :: (l, listOf vs.toArray k) :: rest) ?_ (List.Perm.swap ..)
    exact Nd.new (hN.swap rfl) (List.forall_mem_cons.mpr ⟨e4, e3⟩)
  · have h1 := hN.head
    have N1 : News h₀ L s.heap ((37, tabObj #[rawInt 47, rawInt 4, .ref c]) :: (c, o) :: (l, listOf vs.toArray k) :: rest) := N
    refine d2i_hit w mean mg mb dp un gd cn cs a ccd cl outer A₀ base h₀ L m rest s l vs ns k n tn c o v t Q E B F X N1 T hk C37 (h1 _ (.tail _ (.head _))) (fun q hq => h1 q (.tail _ (.tail _ hq))) hI hn hn2 hdig hpos h64 ho hv (h1 _ (.head _)) hd hu ?_
    intro h' t' tk' F' N'
    exact hret _ [(c, o)] h' t' tk' (.inr ⟨c, o, v, t, rfl, rfl, ho, hv⟩) (by simp) hN F' N'
theorem lawdig_any (w : World) (mean : ExcName → Option Value) (mg mb : Str → Option Value) :
  ∀ (dp un : Nat) (gd : Option (List Code)) (cn : Str) (cs : Scope) (a : Addr) (ccd : Value) (cl : List (Str × Addr)) (outer : List Env) (A₀ : Around) (base h₀ : Heap) (L : Addr) (m : Str → Option Value) (ps : Array Value) (ex rest : List (Addr × Obj)) (s : Shared) (x n c : Int) (tx tn tc : Tok)
    (Q E : Value → Shared → Prop),
    Below A₀ base outer h₀ → Fr h₀ L s.heap m → (Mine.hd.heap_39 w.params).In h₀ → News h₀ L s.heap ((30, tabObj ps) :: (ex ++ rest)) → Top VW LO mean mg mb h₀ → cs.kind = .function → CodeHd base 34 30 →
    TabOk nm30 32 4 ps ex → Nd ((30, tabObj ps) :: (ex ++ rest)) → 0 ≤ x → 0 < n → n ≤ 100000 → x < 2 ^ (64 * n.toNat) → 0 ≤ c → c ≤ 64 →
    dp + 12 < recursionLimit → un + 96 < cLine →
    (∀ ps' ex' l' vs' k' h' tk', TabOk nm30 32 4 ps' ex' → ex' ≠ [] → Nd ((l', listOf vs'.toArray k') :: (30, tabObj ps') :: (ex' ++ rest)) → (∀ q ∈ rest, @LT.lt Nat _ q.1 l') → Fr h₀ L h' m → News h₀ L h' ((l', listOf vs'.toArray k') :: (30, tabObj ps') :: (ex' ++ rest)) → IntsAre vs' (digs n.toNat c.toNat x) → Q (.ref l') { s with heap := h', toks := tk' }) →
    wpAny (model PySem.Challenge.rw_ph0116_01.row.prog w) (ktrTop dp un gd cn cs L a ccd cl outer) (call (.ref 87) [.int x tx, .int n tn, .int c tc]) Q E s := by
  intro dp un gd cn cs a ccd cl outer A₀ base h₀ L m ps ex rest s x n c tx tn tc Q E B F X N T hk C30 hT hN hx hn hn2 hx2 hc0 hc64 hd hu hret
  rcases hT with ⟨rfl, rfl⟩ | ⟨cc, o, v, t, rfl, rfl, ho, hv⟩
  · have h1 := hN.head
    refine lawdig_first w mean mg mb dp un gd cn cs a ccd cl outer A₀ base h₀ L m rest s x n c tx tn tc Q E B F X N T hk C30 h1 hx hn hn2 hx2 hc0 hc64 hd hu ?_
    intro c' oc' voc' t' l' vs' k' h' tk' e1 e2 e3 e4 e5 e6 e7 F' N' hI'
    refine hret _ [(c', oc')] l' vs' k' h' tk' (.inr ⟨c', oc', voc', t', rfl, rfl, e1, e2⟩) (by simp) ?_ e5 F' N' hI'
    refine Nd.new ?_ (List.forall_mem_cons.mpr ⟨e6, List.forall_mem_cons.mpr ⟨e7, e5⟩⟩)
    refine Nd.perm (l := (c', oc') :: (30, tabObj #[rawInt 32, rawInt 4, .ref c']) :: rest) ?_ (List.Perm.swap ..)
    exact Nd.new (hN.swap rfl) (List.forall_mem_cons.mpr ⟨e4, e3⟩)
  · have h1 := hN.head
    have N1 : News h₀ L s.heap ((30, tabObj #[rawInt 32, rawInt 4, .ref cc]) :: (cc, o) :: rest) := N
    refine lawdig_hit w mean mg mb dp un gd cn cs a ccd cl outer A₀ base h₀ L m rest s x n c tx tn tc cc o v t Q E B F X N1 T hk C30 (fun q hq => h1 q (.tail _ hq)) hx hn hn2 hx2 hc0 hc64 ho hv (h1 _ (.head _)) hd hu ?_
    intro l' vs' k' h' tk' e1 e2 e3 F' N' hI'
    exact hret _ [(cc, o)] l' vs' k' h' tk' (.inr ⟨cc, o, v, t, rfl, rfl, ho, hv⟩) (by simp) (Nd.new hN (List.forall_mem_cons.mpr ⟨e2, List.forall_mem_cons.mpr ⟨e3, e1⟩⟩)) e1 F' N' hI'
theorem divmod_any (w : World) (mean : ExcName → Option Value) (mg mb : Str → Option Value) :
  ∀ (dp un : Nat) (gd : Option (List Code)) (cn : Str) (cs : Scope) (a : Addr) (ccd : Value) (cl : List (Str × Addr)) (outer : List Env) (A₀ : Around) (base h₀ : Heap) (L : Addr) (m : Str → Option Value) (p30 p37 : Array Value) (e30 e37 rest : List (Addr × Obj)) (s : Shared) (x b k : Int) (tx tb : Tok)
    (Q E : Value → Shared → Prop),
    Below A₀ base outer h₀ → Fr h₀ L s.heap m → (Mine.hd.heap_39 w.params).In h₀ → News h₀ L s.heap ((30, tabObj p30) :: (e30 ++ (37, tabObj p37) :: (e37 ++ rest))) → Top VW LO mean mg mb h₀ → cs.kind = .function → CodeHd base 34 30 → CodeHd base 41 37 →
    TabOk nm30 32 4 p30 e30 → e30 ≠ [] → TabOk nm37 47 4 p37 e37 → e37 ≠ [] → Nd ((30, tabObj p30) :: (e30 ++ (37, tabObj p37) :: (e37 ++ rest))) → rest ≠ [] →
    x = k * b → 1 ≤ k → k ≤ 4 → 0 < b → b < 2 ^ 4000 →
    dp + 12 < recursionLimit → un + 96 < cLine →
    (∀ l' t t' h' tk', Fr h₀ L h' m → News h₀ L h' ((l', { cls := .type "tuple", data := .seq #[.int k t, .int 0 t'] }) :: (30, tabObj p30) :: (e30 ++ (37, tabObj p37) :: (e37 ++ rest))) → (∀ q ∈ (30, tabObj p30) :: (e30 ++ (37, tabObj p37) :: (e37 ++ rest)), @LT.lt Nat _ q.1 l') → Q (.ref l') { s with heap := h', toks := tk' }) →
    wpAny (model PySem.Challenge.rw_ph0116_01.row.prog w) (ktrTop dp un gd cn cs L a ccd cl outer) (call (.ref 49) [.int x tx, .int b tb]) Q E s := by
  intro dp un gd cn cs a ccd cl outer A₀ base h₀ L m p30 p37 e30 e37 rest s x b k tx tb Q E B F X N T hk C30 C37 t30 n30 t37 n37 hN hrn hxk hk1 hk4 hb0 hb1 hd hu hret
  rcases t30 with ⟨_, rfl⟩ | ⟨c1, o1, v1, t1, rfl, rfl, ho1, hv1⟩
  · exact absurd rfl n30
  rcases t37 with ⟨_, rfl⟩ | ⟨c2, o2, v2, t2, rfl, rfl, ho2, hv2⟩
  · exact absurd rfl n37
  have a1 := hN.head
  have a2 := hN.tail.head
  have a3 := hN.tail.tail.head
  have a4 := hN.tail.tail.tail.head
  refine divmod_pos w mean mg mb dp un gd cn cs a ccd cl outer A₀ base h₀ L m rest s x b k tx tb c1 c2 o1 o2 v1 v2 t1 t2 Q E B F X N T hk C30 C37 ho1 hv1 ho2 hv2 (a1 _ (.head _)) (Ne.symm (a2 _ (.head _))) (a1 _ (.tail _ (.tail _ (.head _)))) (a3 _ (.head _)) (Ne.symm (a2 _ (.tail _ (.head _)))) hrn
    (fun q hq => ⟨a1 q (.tail _ (.tail _ (.tail _ hq))), a3 q (.tail _ hq), a2 q (.tail _ (.tail _ hq)), a4 q hq⟩) hxk hk1 hk4 hb0 hb1 hd hu hret
end
section
open PySem PySem.W PySem.Spec PySem.Calls PyProof.Rows
set_option Elab.async false
set_option maxRecDepth 100000
/-- the law's ledger in a fixed order -/
abbrev CAN (X : List (Addr × Obj)) (p30 p37 : Array Value) (e30 e37 own : List (Addr × Obj)) : List (Addr × Obj) := X ++ (30, tabObj p30) :: (37, tabObj p37) :: (e30 ++ (e37 ++ own))
theorem permA {α : Type} {k p q : α} {X e30 e37 own : List α} : ((k :: X) ++ p :: q :: (e30 ++ (e37 ++ own))).Perm (q :: (e37 ++ k :: (X ++ p :: (e30 ++ own)))) := by
  classical
  rw [List.perm_iff_count]
  intro z
  simp only [List.count_cons, List.count_append, List.cons_append]
  omega
theorem permB {α : Type} {p q : α} {X e30 e37 own : List α} : (X ++ p :: q :: (e30 ++ (e37 ++ own))).Perm (p :: (e30 ++ (X ++ q :: (e37 ++ own)))) := by
  classical
  rw [List.perm_iff_count]
  intro z
  simp only [List.count_cons, List.count_append]
  omega
theorem permC {α : Type} {p q : α} {X e30 e37 own : List α} : (X ++ p :: q :: (e30 ++ (e37 ++ own))).Perm (p :: (e30 ++ q :: (e37 ++ (X ++ own)))) := by
  classical
  rw [List.perm_iff_count]
  intro z
  simp only [List.count_cons, List.count_append]
  omega
theorem News.perm {h₀ h : Heap} {L : Addr} {l l' : List (Addr × Obj)} (N : News h₀ L h l) (hp : l.Perm l') : News h₀ L h l' := fun q hq => N q (hp.mem_iff.mpr hq)
theorem d2i_can (w : World) (mean : ExcName → Option Value) (mg mb : Str → Option Value) :
  ∀ (dp un : Nat) (gd : Option (List Code)) (cn : Str) (cs : Scope) (a : Addr) (ccd : Value) (cl : List (Str × Addr)) (outer : List Env) (A₀ : Around) (base h₀ : Heap) (L : Addr) (m : Str → Option Value) (X : List (Addr × Obj)) (p30 p37 : Array Value) (e30 e37 own : List (Addr × Obj)) (s : Shared) (l : Addr) (vs : List Value) (ns : List Int) (k : Nat) (n : Int) (tn : Tok)
    (Q E : Value → Shared → Prop),
    Below A₀ base outer h₀ → Fr h₀ L s.heap m → (Mine.hd.heap_39 w.params).In h₀ → News h₀ L s.heap (CAN ((l, listOf vs.toArray k) :: X) p30 p37 e30 e37 own) → Top VW LO mean mg mb h₀ → cs.kind = .function → CodeHd base 41 37 →
    TabOk nm37 47 4 p37 e37 → Nd (CAN ((l, listOf vs.toArray k) :: X) p30 p37 e30 e37 own) → IntsAre vs ns → 0 ≤ n → n ≤ 100000 → (∀ d ∈ ns, 0 ≤ d ∧ d < 2 ^ n.toNat) → 0 < ns.length → ns.length ≤ 64 →
    dp + 10 < recursionLimit → un + 80 < cLine →
    (∀ p37' e37' h' t tk', TabOk nm37 47 4 p37' e37' → e37' ≠ [] → Nd (CAN ((l, listOf vs.toArray k) :: X) p30 p37' e30 e37' own) → Fr h₀ L h' m → News h₀ L h' (CAN ((l, listOf vs.toArray k) :: X) p30 p37' e30 e37' own) → Q (.int (dsum n.toNat ns) t) { s with heap := h', toks := tk' }) →
    wpAny (model PySem.Challenge.rw_ph0116_01.row.prog w) (ktrTop dp un gd cn cs L a ccd cl outer) (call (.ref 42) [.ref l, .int n tn]) Q E s := by
  intro dp un gd cn cs a ccd cl outer A₀ base h₀ L m X p30 p37 e30 e37 own s l vs ns k n tn Q E B F Xk N T hk C37 hT hN hI hn hn2 hdig hpos h64 hd hu hret
  refine d2i_any w mean mg mb dp un gd cn cs a ccd cl outer A₀ base h₀ L m p37 e37 (X ++ (30, tabObj p30) :: (e30 ++ own)) s l vs ns k n tn Q E B F Xk (News.perm N permA) T hk C37 hT (hN.perm permA) hI hn hn2 hdig hpos h64 hd hu ?_
  intro ps' ex' h' t tk' h1 h2 h3 F' N'
  exact hret ps' ex' h' t tk' h1 h2 (h3.perm permA.symm) F' (News.perm N' permA.symm)
theorem lawdig_can (w : World) (mean : ExcName → Option Value) (mg mb : Str → Option Value) :
  ∀ (dp un : Nat) (gd : Option (List Code)) (cn : Str) (cs : Scope) (a : Addr) (ccd : Value) (cl : List (Str × Addr)) (outer : List Env) (A₀ : Around) (base h₀ : Heap) (L : Addr) (m : Str → Option Value) (X : List (Addr × Obj)) (p30 p37 : Array Value) (e30 e37 own : List (Addr × Obj)) (s : Shared) (x n c : Int) (tx tn tc : Tok)
    (Q E : Value → Shared → Prop),
    Below A₀ base outer h₀ → Fr h₀ L s.heap m → (Mine.hd.heap_39 w.params).In h₀ → News h₀ L s.heap (CAN X p30 p37 e30 e37 own) → Top VW LO mean mg mb h₀ → cs.kind = .function → CodeHd base 34 30 →
    TabOk nm30 32 4 p30 e30 → Nd (CAN X p30 p37 e30 e37 own) → 0 ≤ x → 0 < n → n ≤ 100000 → x < 2 ^ (64 * n.toNat) → 0 ≤ c → c ≤ 64 →
    dp + 12 < recursionLimit → un + 96 < cLine →
    (∀ p30' e30' l' vs' k' h' tk', TabOk nm30 32 4 p30' e30' → e30' ≠ [] → Nd ((l', listOf vs'.toArray k') :: CAN X p30' p37 e30' e37 own) → (∀ q ∈ X, @LT.lt Nat _ q.1 l') → Fr h₀ L h' m → News h₀ L h' ((l', listOf vs'.toArray k') :: CAN X p30' p37 e30' e37 own) → IntsAre vs' (digs n.toNat c.toNat x) → Q (.ref l') { s with heap := h', toks := tk' }) →
    wpAny (model PySem.Challenge.rw_ph0116_01.row.prog w) (ktrTop dp un gd cn cs L a ccd cl outer) (call (.ref 87) [.int x tx, .int n tn, .int c tc]) Q E s := by
  intro dp un gd cn cs a ccd cl outer A₀ base h₀ L m X p30 p37 e30 e37 own s x n c tx tn tc Q E B F Xk N T hk C30 hT hN hx hn hn2 hx2 hc0 hc64 hd hu hret
  refine lawdig_any w mean mg mb dp un gd cn cs a ccd cl outer A₀ base h₀ L m p30 e30 (X ++ (37, tabObj p37) :: (e37 ++ own)) s x n c tx tn tc Q E B F Xk (News.perm N permB) T hk C30 hT (hN.perm permB) hx hn hn2 hx2 hc0 hc64 hd hu ?_
  intro ps' ex' l' vs' k' h' tk' h1 h2 h3 h4 F' N' hI'
  exact hret ps' ex' l' vs' k' h' tk' h1 h2 (h3.perm (List.Perm.cons _ permB.symm)) (fun q hq => h4 q (List.mem_append_left _ hq)) F' (News.perm N' (List.Perm.cons _ permB.symm)) hI'
theorem divmod_can (w : World) (mean : ExcName → Option Value) (mg mb : Str → Option Value) :
  ∀ (dp un : Nat) (gd : Option (List Code)) (cn : Str) (cs : Scope) (a : Addr) (ccd : Value) (cl : List (Str × Addr)) (outer : List Env) (A₀ : Around) (base h₀ : Heap) (L : Addr) (m : Str → Option Value) (X : List (Addr × Obj)) (p30 p37 : Array Value) (e30 e37 own : List (Addr × Obj)) (s : Shared) (x b k : Int) (tx tb : Tok)
    (Q E : Value → Shared → Prop),
    Below A₀ base outer h₀ → Fr h₀ L s.heap m → (Mine.hd.heap_39 w.params).In h₀ → News h₀ L s.heap (CAN X p30 p37 e30 e37 own) → Top VW LO mean mg mb h₀ → cs.kind = .function → CodeHd base 34 30 → CodeHd base 41 37 →
    TabOk nm30 32 4 p30 e30 → e30 ≠ [] → TabOk nm37 47 4 p37 e37 → e37 ≠ [] → Nd (CAN X p30 p37 e30 e37 own) → X ≠ [] →
    x = k * b → 1 ≤ k → k ≤ 4 → 0 < b → b < 2 ^ 4000 →
    dp + 12 < recursionLimit → un + 96 < cLine →
    (∀ l' t t' h' tk', Fr h₀ L h' m → News h₀ L h' ((l', { cls := .type "tuple", data := .seq #[.int k t, .int 0 t'] }) :: CAN X p30 p37 e30 e37 own) → (∀ q ∈ X, @LT.lt Nat _ q.1 l') → Q (.ref l') { s with heap := h', toks := tk' }) →
    wpAny (model PySem.Challenge.rw_ph0116_01.row.prog w) (ktrTop dp un gd cn cs L a ccd cl outer) (call (.ref 49) [.int x tx, .int b tb]) Q E s := by
  intro dp un gd cn cs a ccd cl outer A₀ base h₀ L m X p30 p37 e30 e37 own s x b k tx tb Q E B F Xk N T hk C30 C37 t30 n30 t37 n37 hN hX hxk hk1 hk4 hb0 hb1 hd hu hret
  refine divmod_any w mean mg mb dp un gd cn cs a ccd cl outer A₀ base h₀ L m p30 p37 e30 e37 (X ++ own) s x b k tx tb Q E B F Xk (News.perm N permC) T hk C30 C37 t30 n30 t37 n37 (hN.perm permC) (by simp [hX]) hxk hk1 hk4 hb0 hb1 hd hu ?_
  intro l' t t' h' tk' F' N' h4
  exact hret l' t t' h' tk' F' (News.perm N' (List.Perm.cons _ permC.symm)) (fun q hq => h4 q (permC.mem_iff.mp (List.mem_append_left _ hq)))
end
section
theorem off_C6 : True := by
  w_top off
  trivial
open PySem PySem.W PySem.Spec PySem.Calls PyProof.Rows
set_option Elab.async false
set_option maxRecDepth 100000
set_option maxHeartbeats 8000000
theorem drop_get {α : Type} {l : List α} {j : Nat} {a : α} (h : l[j]? = some a) : l.drop j = a :: l.drop (j + 1) := by
  obtain ⟨hl, e⟩ := List.getElem?_eq_some_iff.mp h
  rw [List.drop_eq_getElem_cons hl, e]
theorem bare_push {g : Array GenState} {x : GenState} (h : AllBare g) (hx : x.bare = true) : AllBare (g.push x) := by
  intro y hy
  rcases Array.mem_push.mp hy with hy | rfl
  · exact h y hy
  · exact hx
def Hold (p : Prop) : Prop := p
theorem hold {p : Prop} (h : Hold p) : p := h
local macro_rules | `(tactic| walk_at "exec For Tuple Call cons nil") => `(tactic| (k_here; refine hold ?_))
theorem strip_spec (w : World) (mean : ExcName → Option Value) (mg mb : Str → Option Value) :
  ∀ (dp un : Nat) (gd : Option (List Code)) (cn : Str) (cs : Scope) (a : Addr) (ccd : Value) (cl : List (Str × Addr)) (outer : List Env) (A₀ : Around) (base h₀ : Heap) (L : Addr) (m : Str → Option Value) (news : List (Addr × Obj)) (s : Shared) (x : Str) (tx : Tok)
    (Q E : Value → Shared → Prop),
    Below A₀ base outer h₀ → Fr h₀ L s.heap m → (Mine.hd.heap_39 w.params).In h₀ → News h₀ L s.heap news → Top VW LO mean mg mb h₀ → cs.kind = .function →
    (Builtin.Str.occurrences x (Str.ofString "\"") 0 x.length 1).isEmpty = true →
    dp + 2 < recursionLimit → un + 16 < cLine →
    (∀ h' tk', Fr h₀ L h' m → News h₀ L h' news → Q (.str x tx) { s with heap := h', toks := tk' }) →
    wpAny (model PySem.Challenge.rw_ph0116_01.row.prog w) (ktrTop dp un gd cn cs L a ccd cl outer) (call (.ref 63) [.str x tx]) Q E s := by
  k_fill
  intro dp un gd cn cs a ccd cl outer A₀ base h₀ L m news s x tx Q E B F X N T hk hq hd hu hret
  refine wpAny_call ?_
  k_dflt (first | (refine' code_nest ?k1 ?k2 ?k3 ?k4 ?k5 ?kA ?kF ?kK ?k6 ?k7 ?k8 ?k9 ?kB ?_ ?c2 ?c3 ?c4 ?c5; (case kA => exact rfl); (case kF => exact rfl); (case kK => first | exact rfl | assumption); (case k1 => k_asm); (case k2 => k_asm); (case k3 => k_asm); (case k4 => k_asm); (case k5 => k_asm); (case k6 => k_mem); (case k7 => exact codeRec_news (by k_asm) (by k_mem) (by assumption) (by assumption)); (case k8 => ktr_room); (case k9 => exact BindsTo.of_eq rfl); (case c5 => decide); (case kB => exact locs rfl); (case c2 => exact rfl); (case c3 => exact rfl); (case c4 => exact rfl); k_whole; intro g' L' h' FG' F' N' B' X' T'; (try dsimp only); (try k_lift B'); (try k_fold)) | (refine' code_defC ?k1 ?k2 ?k3 ?k4 ?k5 ?kA ?kF ?kK ?k6 ?k7 ?k8 ?k9 ?kB ?kD ?_ ?c2 ?c3 ?c4; (case kA => exact rfl); (case kF => exact rfl); (case kK => first | exact rfl | assumption); (case k1 => k_asm); (case k2 => k_asm); (case k3 => k_asm); (case k4 => k_asm); (case k5 => k_asm); (case k6 => k_is); (case k7 => k_is); (case k8 => ktr_room); (case k9 => exact BindsTo.of_eq rfl); (case kB => exact rfl); (case kD => decide +kernel); (case c2 => exact rfl); (case c3 => exact rfl); (case c4 => exact rfl); k_whole; intro g' L' h' tk' cells' FG' F' N' Y' B' X' T' l1; (try k_lt l1); k_cells Y'; (try simp only [List.cons_append, List.nil_append] at N'); (try dsimp only); (try k_lift B'); (try k_fold)) | ktr_enter)
  k_steps
  exact hret _ _ (by k_asm) (by k_asm)
theorem check_spec (w : World) (mean : ExcName → Option Value) (mg mb : Str → Option Value) :
  ∀ (dp un : Nat) (gd : Option (List Code)) (cn : Str) (cs : Scope) (a : Addr) (ccd : Value) (cl : List (Str × Addr)) (outer : List Env) (A₀ : Around) (base h₀ : Heap) (L : Addr) (m : Str → Option Value) (news : List (Addr × Obj)) (s : Shared) (x : Str) (tx : Tok)
    (Q E : Value → Shared → Prop),
    Below A₀ base outer h₀ → Fr h₀ L s.heap m → (Mine.hd.heap_39 w.params).In h₀ → News h₀ L s.heap news → Top VW LO mean mg mb h₀ → cs.kind = .function →
    x.cps.all (· < 128) = true → (Builtin.Str.occurrences x (Str.ofString "\"") 0 x.length 1).isEmpty = true →
    dp + 12 < recursionLimit → un + 96 < cLine →
    (∀ h' tk' gens', Fr h₀ L h' m → News h₀ L h' news → (AllBare s.gens → AllBare gens') → Q (.bool (chk x)) { s with heap := h', toks := tk', gens := gens' }) →
    wpAny (model PySem.Challenge.rw_ph0116_01.row.prog w) (ktrTop dp un gd cn cs L a ccd cl outer) (call (.ref 70) [.str x tx]) Q E s := by
  k_fill
  intro dp un gd cn cs a ccd cl outer A₀ base h₀ L m news s x tx Q E B F X N T hk hasc hq hd hu hret
  refine wpAny_call ?_
  k_dflt (first | (refine' code_nest ?k1 ?k2 ?k3 ?k4 ?k5 ?kA ?kF ?kK ?k6 ?k7 ?k8 ?k9 ?kB ?_ ?c2 ?c3 ?c4 ?c5; (case kA => exact rfl); (case kF => exact rfl); (case kK => first | exact rfl | assumption); (case k1 => k_asm); (case k2 => k_asm); (case k3 => k_asm); (case k4 => k_asm); (case k5 => k_asm); (case k6 => k_mem); (case k7 => exact codeRec_news (by k_asm) (by k_mem) (by assumption) (by assumption)); (case k8 => ktr_room); (case k9 => exact BindsTo.of_eq rfl); (case c5 => decide); (case kB => exact locs rfl); (case c2 => exact rfl); (case c3 => exact rfl); (case c4 => exact rfl); k_whole; intro g' L' h' FG' F' N' B' X' T'; (try dsimp only); (try k_lift B'); (try k_fold)) | (refine' code_defC ?k1 ?k2 ?k3 ?k4 ?k5 ?kA ?kF ?kK ?k6 ?k7 ?k8 ?k9 ?kB ?kD ?_ ?c2 ?c3 ?c4; (case kA => exact rfl); (case kF => exact rfl); (case kK => first | exact rfl | assumption); (case k1 => k_asm); (case k2 => k_asm); (case k3 => k_asm); (case k4 => k_asm); (case k5 => k_asm); (case k6 => k_is); (case k7 => k_is); (case k8 => ktr_room); (case k9 => exact BindsTo.of_eq rfl); (case kB => exact rfl); (case kD => decide +kernel); (case c2 => exact rfl); (case c3 => exact rfl); (case c4 => exact rfl); k_whole; intro g' L' h' tk' cells' FG' F' N' Y' B' X' T' l1; (try k_lt l1); k_cells Y'; (try simp only [List.cons_append, List.nil_append] at N'); (try dsimp only); (try k_lift B'); (try k_fold)) | ktr_enter)
  k_steps
  k_dflt (refine' strip_spec w mean mg mb _ _ _ _ _ _ _ _ _ _ _ _ _ _ _ _ _ _ _ _ ?b1 ?b2 ?b3 ?b4 ?b5 ?b6 hq ?b7 ?b8 ?_)
  case b1 => k_asm
  case b2 => k_asm
  case b3 => k_asm
  case b4 => k_asm
  case b5 => k_asm
  case b6 => exact rfl
  case b7 => first | omega | ktr_room
  case b8 => first | omega | ktr_units
  intro h9 tk9 F9 N9
  k_steps
  unfold Hold
  refine wpAny_For ?_ (by intro _; rfl)
  k_steps
  refine wpAny_call ?_
  k_dflt (refine' gen_make ?c1 ?c2 ?c3 ?c4 ?c5 ?c6 ?c7 ?c8 ?c9 ?c10 ?c11 hasc ?c12 ?c13 ?c14 ?_)
  case c1 => k_asm
  case c2 => k_asm
  case c3 => k_asm
  case c4 => k_asm
  case c5 => ktr_room
  case c6 => k_is
  case c7 => k_is
  case c8 => exact BindsTo.of_eq rfl
  case c9 => exact rfl
  case c10 => exact T.free (Str.ofString "enumerate") (by decide +kernel) (by decide +kernel) (by decide +kernel) (by decide +kernel) (by decide +kernel)
  case c11 => exact (T.builtins (Str.ofString "enumerate") (by decide +kernel)).trans boot_enumerate
  case c12 => exact rfl
  case c13 => exact rfl
  case c14 => exact rfl
  intro a' Lg h8 tk8 gs led F8 N8 hl8 hLg hLa hbase hG hbare
  k_steps
  have hG0 := hG
  refine wpAny_pyIter_gen (g := s.gens.size) ?_ ?_
  · obtain ⟨⟨oa, nm, qn, hoa, hoc, hod, hos⟩, _⟩ := hG { handled := none, depth := 0, frames := none, guards := none, units := 0 } rfl
    exact ⟨oa, nm, qn, (N8 _ (List.mem_append_left _ hoa)).1, hoc, hod, hos⟩
  have hgen := (chk x)
  k_dflt (refine' for_gen (outs := escs false x.cps.toList) (fun j m₁ => ∃ o t mm, m₁ = mOp o t mm ∧ chkGo o ((escs false x.cps.toList).drop j) = chk x) ?e1 ?e2 ?e3 hLg hLa hbase (hG _ ?e4) F8 N8 ?e5 ?e6 ?e7 ?e8 ?e9 ?eE ?_ ?_)
  case e1 => exact rfl
  case e2 => exact Top.nolimit (by assumption)
  case e3 => ktr_room
  case e4 => exact rfl
  case e6 => exact rfl
  case e7 => exact rfl
  case e8 => exact rfl
  case e5 => exact hl8
  case e9 => exact ⟨0, _, _, rfl, by rw [List.drop_zero]; rfl⟩
  case eE => exact (show PassesOwn _ _ _ _ by passes_own)
  · intro j c p tp tc m₁ s₁ led₁ hsame hc hJ F9 N9
    obtain ⟨hh9, tk9, g9, rfl, hb9⟩ := hsame
    obtain ⟨o, t, mm, rfl, hJ⟩ := hJ
    have hdr : (escs false x.cps.toList).drop j = c :: (escs false x.cps.toList).drop (j + 1) := drop_get hc
    rw [hdr] at hJ
    rw [mOp_back] at F9
    unfold mOp at F9
    dsimp only at F9 N9
    k_steps
    · rename (c == Str.ofString "(") = true => a1
      refine ⟨⟨_, _, rfl⟩, _, (by k_asm), (by k_asm), _, _, _, rfl, ?_⟩
      rw [← hJ, chk_open a1]
    · rename (c == Str.ofString "(") = false => a1
      rename (c == Str.ofString ")") = true => a2
      rename o - 1 < 0 => a3
      refine ⟨⟨_, _, rfl⟩, ?_⟩
      rw [chk_bad a1 a2 a3] at hJ
      dsimp only
      k_steps
      rw [hJ]
      (rename News h₀ L _ _ => kN9)
      exact hret _ _ _ (by k_asm) (News.sub kN9 fun p hp => List.mem_append_right _ hp) (fun hb => hb9 (bare_push hb hbare))
    · rename (c == Str.ofString "(") = false => a1
      rename (c == Str.ofString ")") = true => a2
      rename ¬ o - 1 < 0 => a3
      refine ⟨⟨_, _, rfl⟩, _, (by k_asm), (by k_asm), _, _, _, rfl, ?_⟩
      rw [← hJ, chk_shut a1 a2 a3]
    · rename (c == Str.ofString "(") = false => a1
      rename (c == Str.ofString ")") = false => a2
      refine ⟨⟨_, _, rfl⟩, _, (by k_asm), (by k_asm), _, _, _, rfl, ?_⟩
      rw [← hJ, chk_other a1 a2]
  · intro s₁ m₁ hsame hJ F9 N9
    obtain ⟨hh9, tk9, g9, rfl, hb9⟩ := hsame
    obtain ⟨o, t, mm, rfl, hJ⟩ := hJ
    rw [List.drop_length] at hJ
    have hJ2 : (o == 0) = chk x := hJ
    unfold mOp at F9
    dsimp only at F9 N9
    k_steps
    rw [hJ2]
    exact hret _ _ _ (by k_asm) (by k_asm) (fun hb => hb9 (bare_push hb hbare))
end
section
theorem off_C8 : True := by
  w_top off
  trivial
open PySem PySem.W PySem.Spec PySem.Calls PyProof.Rows
set_option Elab.async false
set_option maxRecDepth 100000
set_option maxHeartbeats 8000000
local macro_rules | `(tactic| walk_at "binaryOp Add str str") => `(tactic| (k_here; with_reducible refine PyProof.Rows.add_str ?h9 ?s9; (case s9 => assumption); intro _ _))
local macro_rules | `(tactic| walk_at "exec For Name Call cons nil") => `(tactic| (k_here; refine hold ?_))
local macro_rules | `(tactic| walk_at "exec For Name Name cons nil") => `(tactic| (k_here; refine hold ?_))
local macro_rules | `(tactic| walk_at "eval ListComp") => `(tactic| (k_here; refine hold ?_))
theorem forests_spec (w : World) (mean : ExcName → Option Value) (mg mb : Str → Option Value) :
  ∀ (dp un : Nat) (gd : Option (List Code)) (cn : Str) (cs : Scope) (a : Addr) (ccd : Value) (cl : List (Str × Addr)) (outer : List Env) (A₀ : Around) (base h₀ : Heap) (L : Addr) (m : Str → Option Value) (news : List (Addr × Obj)) (s : Shared) (lk : Addr) (kvs : List Value) (kk : Nat) (ks : List Int) (n k : Nat) (p : Str) (tn tk' tp : Tok)
    (Q E : Value → Shared → Prop),
    Below A₀ base outer h₀ → Fr h₀ L s.heap m → (Mine.hd.heap_39 w.params).In h₀ → News h₀ L s.heap news → Top VW LO mean mg mb h₀ → cs.kind = .function →
    (lk, (listOf kvs.toArray kk : Obj)) ∈ news → IntsAre kvs ks → 1 ≤ k → k ≤ n → n ≤ 4 → OkS p → p.length ≤ 8 → ks.length = 4 → (∀ x ∈ ks, 0 ≤ x ∧ x < 2 ^ 40) →
    dp + 20 < recursionLimit → un + 160 < cLine →
    (∀ t s₁, SameG s s₁ → Fr h₀ L s₁.heap m → News h₀ L s₁.heap news → Q (.int (forestW ks n k p) t) s₁) →
    wpAny (model PySem.Challenge.rw_ph0116_01.row.prog w) (ktrTop dp un gd cn cs L a ccd cl outer) (call (.ref 80) [.ref lk, .int n tn, .int k tk', .str p tp]) Q E s := by
  k_fill
  intro dp un gd cn cs a ccd cl outer A₀ base h₀ L m news s lk kvs kk ks n k p tn tk' tp Q E B F X N T hk hlk hI hk1 hkn hn4 hp hpl hk4 hks hd hu hret
  refine wpAny_call ?_
  k_dflt (first | (refine' code_nest ?k1 ?k2 ?k3 ?k4 ?k5 ?kA ?kF ?kK ?k6 ?k7 ?k8 ?k9 ?kB ?_ ?c2 ?c3 ?c4 ?c5; (case kA => exact rfl); (case kF => exact rfl); (case kK => first | exact rfl | assumption); (case k1 => k_asm); (case k2 => k_asm); (case k3 => k_asm); (case k4 => k_asm); (case k5 => k_asm); (case k6 => k_mem); (case k7 => exact codeRec_news (by k_asm) (by k_mem) (by assumption) (by assumption)); (case k8 => ktr_room); (case k9 => exact BindsTo.of_eq rfl); (case c5 => decide); (case kB => exact locs rfl); (case c2 => exact rfl); (case c3 => exact rfl); (case c4 => exact rfl); k_whole; intro g' L' h' FG' F' N' B' X' T'; (try dsimp only); (try k_lift B'); (try k_fold)) | (refine' code_defC ?k1 ?k2 ?k3 ?k4 ?k5 ?kA ?kF ?kK ?k6 ?k7 ?k8 ?k9 ?kB ?kD ?_ ?c2 ?c3 ?c4; (case kA => exact rfl); (case kF => exact rfl); (case kK => first | exact rfl | assumption); (case k1 => k_asm); (case k2 => k_asm); (case k3 => k_asm); (case k4 => k_asm); (case k5 => k_asm); (case k6 => k_is); (case k7 => k_is); (case k8 => ktr_room); (case k9 => exact BindsTo.of_eq rfl); (case kB => exact rfl); (case kD => decide +kernel); (case c2 => exact rfl); (case c3 => exact rfl); (case c4 => exact rfl); k_whole; intro g' L' h' tk' cells' FG' F' N' Y' B' X' T' l1; (try k_lt l1); k_cells Y'; (try simp only [List.cons_append, List.nil_append] at N'); (try dsimp only); (try k_lift B'); (try k_fold)) | ktr_enter)
  k_steps
  unfold Hold
  refine wpAny_For ?_ (by intro _; rfl)
  k_steps
  k_dflt (refine' rows_spec w mean mg mb n _ _ _ _ _ _ _ _ _ _ _ _ _ _ _ _ _ _ _ _ _ ?b1 ?b2 ?b3 ?b4 ?b5 ?b6 ?b7 ?b8 ?b9 ?b10 ?b11 ?_)
  case b1 => k_asm
  case b2 => k_asm
  case b3 => k_asm
  case b4 => k_asm
  case b5 => k_asm
  case b6 => exact rfl
  case b7 => omega
  case b8 => omega
  case b9 => omega
  case b10 => first | omega | ktr_room
  case b11 => first | omega | ktr_units
  intro l vs kr own h9 tk9 F9 N9 hR hl9 ho9 hap9
  k_steps
  k_dflt (refine' for_list (nn := kr) (vs := vs) (fun j m₁ made => made = (l, listOf vs.toArray kr) :: (own ++ news) ∧ ∃ wt t mm, m₁ = mF lk k tk' p tp wt t mm ∧ wt = forestTo ks k p ((rowsL n (n - k)).take j)) rfl ?e1 (.head _) ?e2 ?e3 ?e4 F9 N9 ?e5 ?eE ?turn ?done)
  case e1 => exact rfl
  case e2 => rintro j m₁ made ⟨rfl, _⟩; exact .head _
  case e3 => exact rfl
  case e4 => exact rfl
  case e5 => exact ⟨rfl, _, _, _, mF_self rfl rfl rfl rfl, rfl⟩
  case eE => exact (show PassesOwn _ _ _ _ by passes_own)
  case turn =>
    rintro j v m₁ made s₁ I oI ⟨hh1, tk1, g1, rfl, hb1⟩ hv ⟨rfl, wt, t, mm, rfl, hwt⟩ F10 N10 apI
    obtain ⟨r, wr, kw, row, rfl, hrow, hmr, hIr⟩ := hR.get hv
    unfold mF at F10
    dsimp only at F10 N10
    have hr3 : Row3 row := rowsL_mem _ _ _ (List.mem_of_getElem? hrow)
    have hrl : row.length = n := rowsL_row _ _ _ (List.mem_of_getElem? hrow)
    have hz1 := sz1 (k := k) (p := p) (by omega) (by omega) hpl
    have hz2 := sz2 (k := k) (p := p) (row := row) (by omega) (by omega) hpl hr3 (by omega)
    have hmr2 : (r, (listOf wr.toArray kw : Obj)) ∈ own ++ news := List.mem_append_left _ hmr
    k_steps
    unfold Hold
    rw [eval_ListComp]
    refine wpAny_comprehension_free (g := ⟨_, _, [], 0⟩) (gs := []) rfl (by intro _; rfl) (by with_unfolding_all rfl) (by rfl) (by decide +kernel) ?_
    show wpAny _ _ (eval _ _) _ _ _
    k_steps
    rename News _ _ _ _ => NC
    rename Fr _ _ _ _ => FC
    k_dflt (refine' comp_list (nn := kw) (vs := wr) (fun i ys made => made = ((I, oI) :: (l, listOf vs.toArray kr) :: (own ++ news)) ∧ i ≤ 4 ∧ StrsAre ys ((row.take i).map pcs)) rfl ?f1 (.tail _ (.tail _ hmr2)) ?f2 ?f3 ?f4 ?f5 ?f6 FC NC ?f7 ?cturn ?_)
    case f1 => exact rfl
    case f2 =>
      rintro i ys made ⟨_, hi, hs⟩
      rw [strs_len hs, List.length_map, List.length_take]
      exact Nat.le_trans (Nat.min_le_left _ _) (Nat.le_trans hi (by decide +kernel))
    case f3 => rintro i ys made ⟨rfl, _⟩; exact .tail _ (.tail _ hmr2)
    case f4 => decide +kernel
    case f5 => decide +kernel
    case f6 => exact rfl
    case f7 => exact ⟨rfl, Nat.zero_le _, .nil⟩
    case cturn =>
      rintro I2 C D i v ys made s₁ oI2 oC m₂ hDC hID hnl ⟨hh2, tk2, g2, rfl, hb2⟩ hvi ⟨rfl, hi4, hs⟩ hNs hm F11 N11 apI2 apC apD
      obtain ⟨d, td, rfl, hdr⟩ := ints_get hIr hvi
      obtain ⟨hd0, hd3⟩ := hr3 d (List.mem_of_getElem? hdr)
      have hz3 := sz3 hd0 hd3
      dsimp only at F11 N11
      k_steps
      have hil : i < wr.length := (List.getElem?_eq_some_iff.mp hvi).1
      rw [hIr.length] at hil
      refine ⟨⟨_, _, _, rfl, id⟩, _, (by k_asm), (by k_asm), apI2, apC, apD, rfl, by omega, ?_⟩
      rw [take_snoc hdr, List.map_append]
      exact strs_snoc hs
    rintro D ys made s₁ ⟨hh2, tk2, g2, rfl, hb2⟩ hnl F11 N11 apD ⟨rfl, hi4, hs⟩
    rw [hIr.length, List.take_length] at hs
    have hz4 := sz4 hr3 (by omega)
    dsimp only at F11 N11
    k_steps
    k_dflt (refine' join_listW (items := ys.toArray) ⟨_, (N11 _ (.head _)).1, rfl, _, rfl⟩ (by simpa using hs) (by decide +kernel) hz4 ?_)
    intro t5 tk5
    k_steps
    have hok : OkS (textOf k p row) := okS_text (by omega) (by omega) hp hr3
    k_dflt (refine' check_spec w mean mg mb _ _ _ _ _ _ _ _ _ _ _ _ _ _ _ _ _ _ _ _ ?b1 ?b2 ?b3 ?b4 ?b5 ?b6 (okS_all hok) (okS_quote hok) ?b7 ?b8 ?_)
    case b1 => k_asm
    case b2 => k_asm
    case b3 => k_asm
    case b4 => k_asm
    case b5 => k_asm
    case b6 => exact rfl
    case b7 => first | omega | ktr_room
    case b8 => first | omega | ktr_units
    intro h12 tk12 g12 F12 N12 hb12
    k_steps
    · rename (chk _ == true) = true => hchk0
      have hchk : chk (textOf k p row) = true := beq_t hchk0
      unfold Hold
      refine wpAny_For ?_ (by intro _; rfl)
      k_steps
      rename News _ _ _ _ => NC
      rename Fr _ _ _ _ => FC
      k_dflt (refine' for_list (nn := kw) (vs := wr) (fun i m₁ made => made = ((I, oI) :: (l, listOf vs.toArray kr) :: (own ++ news)) ∧ ∃ wy ty mm, m₁ = mG lk k tk' p tp wt t wy ty mm ∧ wy = waysOf ks (row.take i)) rfl ?g1 (.tail _ (.tail _ hmr2)) ?g2 ?g3 ?g4 FC (News.sub NC fun q hq => .tail _ hq) ?g5 ?gE ?gturn ?_)
      case g1 => exact rfl
      case g2 => rintro i m₁ made ⟨rfl, _⟩; exact .tail _ (.tail _ hmr2)
      case g3 => exact rfl
      case g4 => exact rfl
      case g5 => exact ⟨rfl, _, _, _, mG_self rfl rfl rfl rfl rfl, rfl⟩
      case gE => exact (show PassesOwn _ _ _ _ by passes_own)
      case gturn =>
        rintro i v m₁ made s₁ I2 oI2 ⟨hh3, tk3, g3, rfl, hb3⟩ hvi ⟨rfl, wy, ty, mm2, rfl, hwy⟩ F13 N13 apI2
        obtain ⟨d, td, rfl, hdr⟩ := ints_get hIr hvi
        obtain ⟨hd0, hd3⟩ := hr3 d (List.mem_of_getElem? hdr)
        unfold mG at F13
        dsimp only at F13 N13
        have hlk2 : (lk, (listOf kvs.toArray kk : Obj)) ∈ own ++ news := List.mem_append_right _ hlk
        have hdl : d < (ks.length : Int) := by omega
        have hmul := mulOk_get hks wy d.toNat
        k_steps
        k_dflt (refine' item_ints (vs := kvs) (ns := ks) ⟨_, (N13 _ (.tail _ (.tail _ (.tail _ hlk2)))).1, rfl, _, rfl⟩ hI hd0 hdl (by omega) ?_)
        intro t14
        k_steps
        refine ⟨⟨_, _, _, rfl, id⟩, _, _, (by k_asm), (by k_asm), apI2, rfl, _, _, _, mG_self rfl rfl rfl rfl rfl, ?_⟩
        rw [take_snoc hdr, ways_snoc, hwy]
      rintro s₁ m₁ made ⟨hh3, tk3, g3, rfl, hb3⟩ ⟨rfl, wy, ty, mm2, rfl, hwy⟩ F13 N13
      rw [hIr.length, List.take_length] at hwy
      unfold mG at F13
      dsimp only at F13 N13
      k_steps
      refine ⟨⟨_, _, _, rfl, fun hb => hb3 (hb12 (hb2 hb))⟩, _, _, (by k_asm), (by k_asm), apI, rfl, _, _, _, mF_self rfl rfl rfl rfl, ?_⟩
      rw [take_snoc hrow, forestTo_snoc, if_pos hchk, hwt, hwy]
    · rename (chk _ == true) = false => hchk0
      have hchk : chk (textOf k p row) = false := beq_f hchk0
      refine ⟨⟨_, _, _, rfl, fun hb => hb12 (hb2 hb)⟩, _, _, (by k_asm), News.sub N12 (fun q hq => .tail _ hq), apI, rfl, _, _, _, mF_self rfl rfl rfl rfl, ?_⟩
      rw [take_snoc hrow, forestTo_snoc, if_neg (by rw [show chk (textOf k p row) = false from hchk]; exact Bool.false_ne_true)]
      exact hwt
  case done =>
    rintro s₁ m₁ made ⟨hh1, tk1, g1, rfl, hb1⟩ ⟨rfl, wt, t, mm, rfl, hwt⟩ F10 N10
    unfold mF at F10
    dsimp only at F10 N10
    rw [hR.length, List.take_length] at hwt
    k_steps
    rename News h₀ L _ _ => kN
    rw [hwt]
    exact hret _ _ ⟨_, _, _, rfl, hb1⟩ (by k_asm) (News.sub kN fun q hq => .tail _ (List.mem_append_right _ hq))
end
end Mine
end
section
open PySem PySem.W PySem.Spec PySem.Calls PyProof.Rows
set_option maxRecDepth 100000
namespace Mine
/-- the four pieces -/
def pieces : List Str := [Str.ofString "\\)", Str.ofString "", Str.ofString "\\(", Str.ofString "a"]
theorem strs_at {vs : List Value} {xs : List Str} (h : StrsAre vs xs) : ∀ {j : Nat}, j < xs.length → ∃ x t, vs[j]? = some (.str x t) ∧ x ∈ xs := by
  induction h with
  | nil => intro j e; cases e
  | cons y t _ ih =>
    intro j e
    cases j with
    | zero => exact ⟨y, t, rfl, .head _⟩
    | succ j =>
      obtain ⟨x, t, ht, hx⟩ := ih (j := j) (by simpa using e)
      exact ⟨x, t, by simpa using ht, .tail _ hx⟩
theorem item_piece {prog : Program} {w : World} {A : Around} {E : Value → Shared → Prop} {s : Shared} {value slice : PySem.Expr} {l : Addr} {vs : List Value} {d : Int} {u : Tok} {Q : Value → Shared → Prop}
    (hl : s.heap.IsList l vs.toArray) (hI : StrsAre vs pieces) (h0 : 0 ≤ d) (hd : d < 4) (h : ∀ x t, x ∈ pieces → Q (.str x t) s)
    (hs : subscripted slice false (.ref l) (.int d u) = operate [.ref l, .int d u] (getItem (.ref l) (.int d u)) := by with_unfolding_all rfl) :
    wpAny (model prog w) A (subscriptTail value slice (.ref l) (.int d u)) Q E s := by
  obtain ⟨x, t, ht, hx⟩ := strs_at hI (j := d.toNat) (by show _ < 4; omega)
  exact tail_any hl.typeIs slot_list_getitem.lookup (wpAny_getItem_list hl h0 (by omega) (by simpa using ht) (h x t hx)) hs
theorem piece_ok {p : Str} (h : p ∈ pieces) : OkS p ∧ p.length ≤ 8 := by
  unfold pieces at h
  simp only [List.mem_cons, List.not_mem_nil, or_false] at h
  rcases h with rfl | rfl | rfl | rfl <;> exact ⟨by unfold OkS; decide +kernel, by decide +kernel⟩
theorem fmod_ok {f : Int → Int} {l : List Int} (h : ∀ k, ∃ y : Int, f k = y.fmod (10 ^ Int.toNat 12)) : ∀ x ∈ l.map f, 0 ≤ x ∧ x < 2 ^ 40 := by
  intro x hx
  obtain ⟨k, _, rfl⟩ := List.mem_map.mp hx
  obtain ⟨y, hy⟩ := h k
  rw [hy]
  have e : (10 : Int) ^ Int.toNat 12 = 1000000000000 := by decide
  rw [e, Int.fmod_eq_emod_of_nonneg _ (by decide)]
  have e2 : (2 : Int) ^ 40 = 1099511627776 := by decide
  rw [e2]
  omega
theorem fmod4 (x : Int) : 0 ≤ x.fmod 4 ∧ x.fmod 4 < 4 := by
  rw [Int.fmod_eq_emod_of_nonneg _ (by decide)]
  omega
theorem most_of (t : Int) : 3 + t.fmod 2 = 3 ∨ 3 + t.fmod 2 = 4 := by
  rw [Int.fmod_eq_emod_of_nonneg _ (by decide)]
  omega
theorem small_most {M : Int} (h : M = 3 ∨ M = 4) : Builtin.Range.small 1 (M + 1) 1 = true ∧ Builtin.Range.rangeSize 1 (M + 1) 1 = ((M.toNat : Nat) : Int) := by
  rcases h with rfl | rfl <;> exact ⟨by decide, by decide⟩
theorem small_most0 {M : Int} (h : M = 3 ∨ M = 4) : Builtin.Range.small 0 (M + 1) 1 = true ∧ Builtin.Range.rangeSize 0 (M + 1) 1 = ((M.toNat + 1 : Nat) : Int) := by
  rcases h with rfl | rfl <;> exact ⟨by decide, by decide⟩
end Mine
end
section
open PySem PySem.W PySem.Spec PySem.Calls PyProof.Rows
set_option maxRecDepth 100000
namespace Mine
/-- a row of the law's table: the forests of n nodes, by trees -/
def tabEl (ks : List Int) (p : Str) (n t : Nat) : Int := if 0 < t ∧ t ≤ n then forestW ks n t p else 0
def tabRow (ks : List Int) (p : Str) (M n : Nat) : List Int := (List.range (M + 1)).map (tabEl ks p n)
def tabRows (ks : List Int) (p : Str) (M j : Nat) : List (List Int) := (List.range (j + 1)).map (tabRow ks p M)
theorem tabRow_zero (ks : List Int) (p : Str) {M : Int} (h : M = 3 ∨ M = 4) : (List.replicate (M + 1).toNat [(0 : Int)]).flatten = tabRow ks p M.toNat 0 := by
  rcases h with rfl | rfl <;> simp [tabRow, tabEl, List.range_succ] <;> decide
theorem tabRows_snoc (ks : List Int) (p : Str) (M j : Nat) : tabRows ks p M (j + 1) = tabRows ks p M j ++ [tabRow ks p M (j + 1)] := by
  unfold tabRows
  rw [List.range_succ, List.map_append]; rfl
theorem tabRow_len (ks : List Int) (p : Str) (M n : Nat) : (tabRow ks p M n).length = M + 1 := by unfold tabRow; simp
theorem tabRow_get (ks : List Int) (p : Str) {M n t : Nat} (h : t ≤ M) : (tabRow ks p M n).getD t 0 = tabEl ks p n t := by
  unfold tabRow
  simp [List.getD, List.getElem?_map, List.getElem?_range (by omega : t < M + 1)]
/-- the law's frame -/
def mL (lT : Addr) (W : Int) (tw : Tok) (M : Int) (tm : Tok) (mm : Str → Option Value) : Str → Option Value := fun y =>
  if y = Str.ofString "table" then some (.ref lT) else if y = Str.ofString "width" then some (.int W tw) else if y = Str.ofString "most" then some (.int M tm) else mm y
theorem mL_self {lT : Addr} {W : Int} {tw : Tok} {M : Int} {tm : Tok} {m : Str → Option Value} (h1 : m (Str.ofString "table") = some (.ref lT)) (h2 : m (Str.ofString "width") = some (.int W tw)) (h3 : m (Str.ofString "most") = some (.int M tm)) : m = mL lT W tw M tm m := by
  funext y
  unfold mL
  split
  · rename_i h; rw [h]; exact h1
  · split
    · rename_i h; rw [h]; exact h2
    · split
      · rename_i h; rw [h]; exact h3
      · rfl
/-- the law's ledger, the cell of the loop's target apart -/
def MADE (p30 p37 : Array Value) (e30 e37 FX : List (Addr × Obj)) (lT : Addr) (tvs : List Value) (kt : Nat) (own : List (Addr × Obj)) : List (Addr × Obj) :=
  FX ++ ((lT, (listOf tvs.toArray kt : Obj)) :: (30, tabObj p30) :: (37, tabObj p37) :: (e30 ++ (e37 ++ own)))
/-- what holds of the law's ledger between the turns of the main loop -/
structure MainJ (ks : List Int) (p : Str) (M : Int) (W : Int) (lT : Addr) (FX : List (Addr × Obj)) (j : Nat) (m : Str → Option Value) (made : List (Addr × Obj)) : Prop where
  ex : ∃ p30 p37 e30 e37 tvs kt own, made = MADE p30 p37 e30 e37 FX lT tvs kt own ∧ TabOk nm30 32 4 p30 e30 ∧ TabOk nm37 47 4 p37 e37 ∧ Nd made ∧ RowVals own tvs (tabRows ks p M.toNat j)
  fr : ∃ tw tm mm, m = mL lT W tw M tm mm
end Mine
namespace Mine
theorem mvK {α : Type} {a b c d e f k t : α} {R : List α} : (a :: b :: c :: d :: e :: f :: k :: t :: R).Perm (k :: a :: b :: c :: d :: e :: f :: t :: R) := by
  classical
  rw [List.perm_iff_count]
  intro z
  simp only [List.count_cons]
  omega
end Mine
namespace Mine
theorem ints_snoc {ys : List Value} {ns : List Int} {x : Int} {t : Tok} (h : IntsAre ys ns) : IntsAre (ys ++ [.int x t]) (ns ++ [x]) := by
  induction h with
  | nil => exact .cons _ _ .nil
  | cons a b _ ih => exact .cons _ _ ih
/-- the forests of n nodes told so far -/
def tabTo (ks : List Int) (p : Str) (n i : Nat) : List Int := (List.range i).map (tabEl ks p n)
theorem tabTo_snoc (ks : List Int) (p : Str) (n i : Nat) : tabTo ks p n (i + 1) = tabTo ks p n i ++ [tabEl ks p n i] := by
  unfold tabTo
  rw [List.range_succ, List.map_append]; rfl
end Mine
end
section
open PySem PySem.W PySem.Spec PySem.Calls PyProof.Rows
set_option maxRecDepth 100000
namespace Mine
open PySem.Builtin.Int (intBits)
theorem mem_le_sum : ∀ {ks : List Int}, (∀ x ∈ ks, 0 ≤ x) → 0 ≤ ks.sum ∧ ∀ x ∈ ks, x ≤ ks.sum
  | [], _ => ⟨by simp, fun x h => nomatch h⟩
  | k :: r, h => by
    obtain ⟨h1, h2⟩ := mem_le_sum (ks := r) fun x hx => h x (.tail _ hx)
    have h3 := h k (.head _)
    rw [List.sum_cons]
    refine ⟨by omega, fun x hx => ?_⟩
    rcases List.mem_cons.mp hx with rfl | hx
    · omega
    · have := h2 x hx; omega
theorem sum_bits {ks : List Int} (hk4 : ks.length = 4) (hkb : ∀ x ∈ ks, 0 ≤ x ∧ x < 2 ^ 40) : 0 ≤ ks.sum ∧ intBits ks.sum ≤ 42 ∧ ∀ x ∈ ks, 0 ≤ x ∧ x < 2 ^ intBits ks.sum := by
  have h1 := mem_le_sum fun x hx => (hkb x hx).1
  refine ⟨h1.1, bits_of_lt h1.1 ?_, fun x hx => ⟨(hkb x hx).1, Int.lt_of_le_of_lt (h1.2 x hx) (lt_pow_bits h1.1)⟩⟩
  match ks, hk4 with
  | [a, b, c, d], _ =>
    have ha := hkb a (by simp)
    have hb := hkb b (by simp)
    have hc := hkb c (by simp)
    have hd := hkb d (by simp)
    have e : (2 : Int) ^ 42 = 4 * 2 ^ 40 := by decide
    rw [e]
    simp only [List.sum_cons, List.sum_nil]
    omega
theorem pow_lt_pow_int {a b : Int} (h0 : 0 ≤ a) (h : a < b) {n : Nat} (hn : n ≠ 0) : a ^ n < b ^ n := by
  obtain ⟨x, rfl⟩ := Int.eq_ofNat_of_zero_le h0
  obtain ⟨y, rfl⟩ := Int.eq_ofNat_of_zero_le (by omega : 0 ≤ b)
  have := Nat.pow_lt_pow_left (Int.ofNat_lt.mp h) hn
  have h2 := Int.ofNat_lt.mpr this
  simpa using h2
structure WOk (ks : List Int) (M W : Int) : Prop where
  w0 : 0 < W
  w1 : W ≤ 300
  dig : ∀ d ∈ ks, 0 ≤ d ∧ d < 2 ^ W.toNat
  big : ks.sum ^ M.toNat < 2 ^ W.toNat
  s0 : 0 ≤ ks.sum
theorem wOk {ks : List Int} {M W t : Int} (hk4 : ks.length = 4) (hkb : ∀ x ∈ ks, 0 ≤ x ∧ x < 2 ^ 40) (hM : M = 3 ∨ M = 4) (hW : W = M * (intBits ks.sum : Int) + 1 + t.fmod 50) : WOk ks M W := by
  obtain ⟨h0, hb, hd⟩ := sum_bits hk4 hkb
  have ht : 0 ≤ t.fmod 50 ∧ t.fmod 50 < 50 := by
    rw [Int.fmod_eq_emod_of_nonneg _ (by decide)]
    omega
  have hWn : M.toNat * intBits ks.sum ≤ W.toNat := by
    rcases hM with rfl | rfl
    · show 3 * _ ≤ _; omega
    · show 4 * _ ≤ _; omega
  have hWb : intBits ks.sum ≤ W.toNat := by
    rcases hM with rfl | rfl <;> omega
  refine ⟨by rcases hM with rfl | rfl <;> omega, by rcases hM with rfl | rfl <;> omega, fun d hd' => ⟨(hd d hd').1, Int.lt_of_lt_of_le (hd d hd').2 (pow_mono hWb)⟩, ?_, h0⟩
  have h1 : ks.sum < 2 ^ intBits ks.sum := lt_pow_bits h0
  have h2 : ks.sum ^ M.toNat < (2 ^ intBits ks.sum) ^ M.toNat := by
    rcases hM with rfl | rfl
    · exact pow_lt_pow_int h0 h1 (by decide)
    · exact pow_lt_pow_int h0 h1 (by decide)
  rw [← Int.pow_mul] at h2
  refine Int.lt_of_lt_of_le h2 (pow_mono ?_)
  rw [Nat.mul_comm]; exact hWn
end Mine
end
section
open PySem PySem.W PySem.Spec PySem.Calls PyProof.Rows
set_option maxRecDepth 100000
namespace Mine
def padd : List Int → List Int → List Int
  | [], r => r
  | a :: l, [] => a :: l
  | a :: l, b :: r => (a + b) :: padd l r
def pmul : List Int → List Int → List Int
  | [], _ => []
  | a :: l, r => padd (r.map (a * ·)) (0 :: pmul l r)
def ppow (l : List Int) : Nat → List Int
  | 0 => [1]
  | n + 1 => pmul l (ppow l n)
theorem dsum_padd (n : Nat) : ∀ l r : List Int, dsum n (padd l r) = dsum n l + dsum n r
  | [], r => by simp [padd, dsum]
  | a :: l, [] => by simp [padd, dsum]
  | a :: l, b :: r => by
    simp only [padd, dsum, dsum_padd n l r, Int.mul_add]
    omega
theorem dsum_smul (n : Nat) (a : Int) : ∀ r : List Int, dsum n (r.map (a * ·)) = a * dsum n r
  | [] => by simp [dsum]
  | b :: r => by
    simp only [List.map_cons, dsum, dsum_smul n a r, Int.mul_add]
    rw [← Int.mul_assoc, ← Int.mul_assoc, Int.mul_comm (2 ^ n) a]
theorem dsum_pmul (n : Nat) : ∀ l r : List Int, dsum n (pmul l r) = dsum n l * dsum n r
  | [], r => by simp [pmul, dsum]
  | a :: l, r => by
    simp only [pmul, dsum_padd, dsum_smul, dsum, dsum_pmul n l r, Int.add_mul, Int.zero_add, Int.mul_assoc]
theorem dsum_ppow (n : Nat) (l : List Int) : ∀ k : Nat, dsum n (ppow l k) = dsum n l ^ k
  | 0 => by simp [ppow, dsum]
  | k + 1 => by rw [ppow, dsum_pmul, dsum_ppow n l k, Int.pow_succ, Int.mul_comm]
theorem sum_padd : ∀ l r : List Int, (padd l r).sum = l.sum + r.sum
  | [], r => by simp [padd]
  | a :: l, [] => by simp [padd]
  | a :: l, b :: r => by
    simp only [padd, List.sum_cons, sum_padd l r]
    omega
theorem sum_smul (a : Int) : ∀ r : List Int, (r.map (a * ·)).sum = a * r.sum
  | [] => by simp
  | b :: r => by simp only [List.map_cons, List.sum_cons, sum_smul a r, Int.mul_add]
theorem sum_pmul : ∀ l r : List Int, (pmul l r).sum = l.sum * r.sum
  | [], r => by simp [pmul]
  | a :: l, r => by simp only [pmul, sum_padd, sum_smul, List.sum_cons, sum_pmul l r, Int.add_mul, Int.zero_add]
theorem sum_ppow (l : List Int) : ∀ k : Nat, (ppow l k).sum = l.sum ^ k
  | 0 => by simp [ppow]
  | k + 1 => by rw [ppow, sum_pmul, sum_ppow l k, Int.pow_succ, Int.mul_comm]
def NN (l : List Int) : Prop := ∀ x ∈ l, 0 ≤ x
theorem nn_padd : ∀ {l r : List Int}, NN l → NN r → NN (padd l r)
  | [], r, _, hr => hr
  | a :: l, [], hl, _ => hl
  | a :: l, b :: r, hl, hr => by
    intro x hx
    rcases List.mem_cons.mp hx with rfl | hx
    · have := hl a (.head _); have := hr b (.head _); omega
    · exact nn_padd (fun y hy => hl y (.tail _ hy)) (fun y hy => hr y (.tail _ hy)) x hx
theorem nn_pmul : ∀ {l r : List Int}, NN l → NN r → NN (pmul l r)
  | [], r, _, _ => fun x hx => nomatch hx
  | a :: l, r, hl, hr => by
    refine nn_padd (fun x hx => ?_) (fun x hx => ?_)
    · obtain ⟨y, hy, rfl⟩ := List.mem_map.mp hx
      exact Int.mul_nonneg (hl a (.head _)) (hr y hy)
    · rcases List.mem_cons.mp hx with rfl | hx
      · exact Int.le_refl 0
      · exact nn_pmul (fun y hy => hl y (.tail _ hy)) hr x hx
theorem nn_ppow {l : List Int} (h : NN l) : ∀ k : Nat, NN (ppow l k)
  | 0 => fun x hx => by rw [List.mem_singleton.mp hx]; decide
  | k + 1 => nn_pmul h (nn_ppow h k)
theorem digs_dsum {n : Nat} : ∀ {len : Nat} {L : List Int}, len ≤ L.length → (∀ x ∈ L.take len, 0 ≤ x ∧ x < 2 ^ n) → digs n len (dsum n L) = L.take len
  | 0, L, _, _ => by simp [digs]
  | len + 1, [], h, _ => by simp at h
  | len + 1, d :: L, h, hb => by
    have hd := hb d (by simp)
    have hp : (0 : Int) < 2 ^ n := Int.pow_pos (by decide)
    simp only [digs, dsum, List.take_succ_cons]
    rw [Int.add_mul_emod_self_left, Int.emod_eq_of_lt hd.1 hd.2, Int.add_mul_ediv_left _ _ (Int.ne_of_gt hp), Int.ediv_eq_zero_of_lt hd.1 hd.2, Int.zero_add,
      digs_dsum (by simpa using h) (fun x hx => hb x (by rw [List.take_succ_cons]; exact .tail _ hx))]
theorem getD_le_sum {l : List Int} (h : NN l) (i : Nat) : 0 ≤ l.getD i 0 ∧ l.getD i 0 ≤ l.sum := by
  have hs := mem_le_sum h
  rcases Nat.lt_or_ge i l.length with hi | hi
  · have e : l.getD i 0 = l[i] := by simp [List.getD, hi]
    rw [e]
    exact ⟨h _ (List.getElem_mem hi), hs.2 _ (List.getElem_mem hi)⟩
  · have e : l.getD i 0 = 0 := by simp [List.getD, List.getElem?_eq_none hi]
    rw [e]
    exact ⟨Int.le_refl 0, hs.1⟩
theorem pow_le_pow_int {s : Int} (h0 : 0 ≤ s) {n M : Nat} (h1 : 1 ≤ n) (h2 : n ≤ M) : s ^ n ≤ s ^ M := by
  obtain ⟨x, rfl⟩ := Int.eq_ofNat_of_zero_le h0
  rcases Nat.eq_zero_or_pos x with rfl | hx
  · have e1 : ((0 : Nat) : Int) ^ n = 0 := by
      obtain ⟨q, rfl⟩ : ∃ q, n = q + 1 := ⟨n - 1, by omega⟩
      rw [Int.pow_succ]; simp
    have e2 : ((0 : Nat) : Int) ^ M = 0 := by
      obtain ⟨q, rfl⟩ : ∃ q, M = q + 1 := ⟨M - 1, by omega⟩
      rw [Int.pow_succ]; simp
    rw [e1, e2]; exact Int.le_refl 0
  · have := Int.ofNat_le.mpr (Nat.pow_le_pow_right hx h2)
    simpa using this
/-- the coefficients of the kinds' power are digits -/
theorem coef_bd {ks : List Int} {M W : Int} (h : WOk ks M W) {n : Nat} (h1 : 1 ≤ n) (h2 : n ≤ M.toNat) : ∀ x ∈ ppow ks n, 0 ≤ x ∧ x < 2 ^ W.toNat := by
  intro x hx
  have hn : NN (ppow ks n) := nn_ppow (fun y hy => (h.dig y hy).1) n
  have hs := (mem_le_sum hn).2 x hx
  rw [sum_ppow] at hs
  exact ⟨hn x hx, Int.lt_of_le_of_lt (Int.le_trans hs (pow_le_pow_int h.s0 h1 h2)) h.big⟩
end Mine
end
section
open PySem PySem.W PySem.Spec PySem.Calls PyProof.Rows
set_option maxRecDepth 100000
namespace Mine
/-- the rows that are taken -/
def kept : Nat → Nat → List (List Int)
  | 1, 1 => [[0]]
  | 2, 1 => [[1, 0]]
  | 2, 2 => [[0, 0]]
  | 3, 1 => [[1, 1, 0], [2, 0, 0]]
  | 3, 2 => [[0, 1, 0], [1, 0, 0]]
  | 3, 3 => [[0, 0, 0]]
  | 4, 1 => [[1, 1, 1, 0], [1, 2, 0, 0], [2, 0, 1, 0], [2, 1, 0, 0], [3, 0, 0, 0]]
  | 4, 2 => [[0, 1, 1, 0], [0, 2, 0, 0], [1, 0, 1, 0], [1, 1, 0, 0], [2, 0, 0, 0]]
  | 4, 3 => [[0, 0, 1, 0], [0, 1, 0, 0], [1, 0, 0, 0]]
  | 4, 4 => [[0, 0, 0, 0]]
  | _, _ => []
theorem kept_all : ∀ p ∈ pieces, ∀ n ∈ [1, 2, 3, 4], ∀ k ∈ [1, 2, 3, 4], k ≤ n → ((rowsL n ((n : Int) - ((k : Nat) : Int))).filter fun row => chk (textOf (k : Int) p row)) = kept n k := by
  decide +kernel
theorem forestTo_filter (ks : List Int) (k : Int) (p : Str) (rows : List (List Int)) : forestTo ks k p rows = (rows.filter fun row => chk (textOf k p row)).foldl (fun a row => a + waysOf ks row) 0 := by
  unfold forestTo
  rw [List.foldl_filter]
theorem four_mem (n : Nat) (h1 : 1 ≤ n) (h2 : n ≤ 4) : n ∈ [1, 2, 3, 4] := (by decide +kernel : ∀ m : Fin 5, 1 ≤ m.1 → m.1 ∈ [1, 2, 3, 4]) ⟨n, Nat.lt_succ_of_le h2⟩ h1
theorem forest_kept {ks : List Int} {n k : Nat} {p : Str} (hp : p ∈ pieces) (h1 : 1 ≤ k) (h2 : k ≤ n) (h3 : n ≤ 4) : forestW ks n k p = (kept n k).foldl (fun a row => a + waysOf ks row) 0 := by
  unfold forestW
  rw [forestTo_filter, kept_all p hp n (four_mem n (Nat.le_trans h1 h2) h3) k (four_mem k h1 (Nat.le_trans h2 h3)) h2]
theorem nk_dec : ∀ n k : Fin 5, 1 ≤ k.1 → k.1 ≤ n.1 → (n.1 = 1 ∧ k.1 = 1) ∨ (n.1 = 2 ∧ k.1 = 1) ∨ (n.1 = 2 ∧ k.1 = 2) ∨ (n.1 = 3 ∧ k.1 = 1) ∨ (n.1 = 3 ∧ k.1 = 2) ∨ (n.1 = 3 ∧ k.1 = 3) ∨ (n.1 = 4 ∧ k.1 = 1) ∨ (n.1 = 4 ∧ k.1 = 2) ∨ (n.1 = 4 ∧ k.1 = 3) ∨ (n.1 = 4 ∧ k.1 = 4) := by decide +kernel
theorem nk_cases (n : Nat) (h3 : n ≤ 4) (k : Nat) (h1 : 1 ≤ k) (h2 : k ≤ n) : (n = 1 ∧ k = 1) ∨ (n = 2 ∧ k = 1) ∨ (n = 2 ∧ k = 2) ∨ (n = 3 ∧ k = 1) ∨ (n = 3 ∧ k = 2) ∨ (n = 3 ∧ k = 3) ∨ (n = 4 ∧ k = 1) ∨ (n = 4 ∧ k = 2) ∨ (n = 4 ∧ k = 3) ∨ (n = 4 ∧ k = 4) := nk_dec ⟨n, Nat.lt_succ_of_le h3⟩ ⟨k, Nat.lt_succ_of_le (Nat.le_trans h2 h3)⟩ h1 h2
/-- Raney: of a row's turns, k in n are taken -/
theorem raney {a b c d : Int} {n k : Nat} {p : Str} (hp : p ∈ pieces) (h1 : 1 ≤ k) (h2 : k ≤ n) (h3 : n ≤ 4) : (k : Int) * (ppow [a, b, c, d] n).getD (n - k) 0 = (n : Int) * forestW [a, b, c, d] n k p := by
  rw [forest_kept hp h1 h2 h3]
  rcases nk_cases n h3 k h1 h2 with ⟨rfl, rfl⟩ | ⟨rfl, rfl⟩ | ⟨rfl, rfl⟩ | ⟨rfl, rfl⟩ | ⟨rfl, rfl⟩ | ⟨rfl, rfl⟩ | ⟨rfl, rfl⟩ | ⟨rfl, rfl⟩ | ⟨rfl, rfl⟩ | ⟨rfl, rfl⟩
  · show ((1 : Nat) : Int) * ((a * 1) + 0) = ((1 : Nat) : Int) * (0 + (1 * a))
    grind
  · show ((1 : Nat) : Int) * ((a * ((b * 1) + 0)) + ((b * ((a * 1) + 0)) + 0)) = ((2 : Nat) : Int) * (0 + ((1 * b) * a))
    grind
  · show ((2 : Nat) : Int) * ((a * ((a * 1) + 0)) + 0) = ((2 : Nat) : Int) * (0 + ((1 * a) * a))
    grind
  · show ((1 : Nat) : Int) * ((a * ((a * ((c * 1) + 0)) + ((b * ((b * 1) + 0)) + ((c * ((a * 1) + 0)) + 0)))) + ((b * ((a * ((b * 1) + 0)) + ((b * ((a * 1) + 0)) + 0))) + ((c * ((a * ((a * 1) + 0)) + 0)) + 0))) = ((3 : Nat) : Int) * ((0 + (((1 * b) * b) * a)) + (((1 * c) * a) * a))
    grind
  · show ((2 : Nat) : Int) * ((a * ((a * ((b * 1) + 0)) + ((b * ((a * 1) + 0)) + 0))) + ((b * ((a * ((a * 1) + 0)) + 0)) + 0)) = ((3 : Nat) : Int) * ((0 + (((1 * a) * b) * a)) + (((1 * b) * a) * a))
    grind
  · show ((3 : Nat) : Int) * ((a * ((a * ((a * 1) + 0)) + 0)) + 0) = ((3 : Nat) : Int) * (0 + (((1 * a) * a) * a))
    grind
  · show ((1 : Nat) : Int) * ((a * ((a * ((a * ((d * 1) + 0)) + ((b * ((c * 1) + 0)) + ((c * ((b * 1) + 0)) + ((d * ((a * 1) + 0)) + 0))))) + ((b * ((a * ((c * 1) + 0)) + ((b * ((b * 1) + 0)) + ((c * ((a * 1) + 0)) + 0)))) + ((c * ((a * ((b * 1) + 0)) + ((b * ((a * 1) + 0)) + 0))) + ((d * ((a * ((a * 1) + 0)) + 0)) + 0))))) + ((b * ((a * ((a * ((c * 1) + 0)) + ((b * ((b * 1) + 0)) + ((c * ((a * 1) + 0)) + 0)))) + ((b * ((a * ((b * 1) + 0)) + ((b * ((a * 1) + 0)) + 0))) + ((c * ((a * ((a * 1) + 0)) + 0)) + 0)))) + ((c * ((a * ((a * ((b * 1) + 0)) + ((b * ((a * 1) + 0)) + 0))) + ((b * ((a * ((a * 1) + 0)) + 0)) + 0))) + ((d * ((a * ((a * ((a * 1) + 0)) + 0)) + 0)) + 0)))) = ((4 : Nat) : Int) * (((((0 + ((((1 * b) * b) * b) * a)) + ((((1 * b) * c) * a) * a)) + ((((1 * c) * a) * b) * a)) + ((((1 * c) * b) * a) * a)) + ((((1 * d) * a) * a) * a))
    grind
  · show ((2 : Nat) : Int) * ((a * ((a * ((a * ((c * 1) + 0)) + ((b * ((b * 1) + 0)) + ((c * ((a * 1) + 0)) + 0)))) + ((b * ((a * ((b * 1) + 0)) + ((b * ((a * 1) + 0)) + 0))) + ((c * ((a * ((a * 1) + 0)) + 0)) + 0)))) + ((b * ((a * ((a * ((b * 1) + 0)) + ((b * ((a * 1) + 0)) + 0))) + ((b * ((a * ((a * 1) + 0)) + 0)) + 0))) + ((c * ((a * ((a * ((a * 1) + 0)) + 0)) + 0)) + 0))) = ((4 : Nat) : Int) * (((((0 + ((((1 * a) * b) * b) * a)) + ((((1 * a) * c) * a) * a)) + ((((1 * b) * a) * b) * a)) + ((((1 * b) * b) * a) * a)) + ((((1 * c) * a) * a) * a))
    grind
  · show ((3 : Nat) : Int) * ((a * ((a * ((a * ((b * 1) + 0)) + ((b * ((a * 1) + 0)) + 0))) + ((b * ((a * ((a * 1) + 0)) + 0)) + 0))) + ((b * ((a * ((a * ((a * 1) + 0)) + 0)) + 0)) + 0)) = ((4 : Nat) : Int) * (((0 + ((((1 * a) * a) * b) * a)) + ((((1 * a) * b) * a) * a)) + ((((1 * b) * a) * a) * a))
    grind
  · show ((4 : Nat) : Int) * ((a * ((a * ((a * ((a * 1) + 0)) + 0)) + 0)) + 0) = ((4 : Nat) : Int) * (0 + ((((1 * a) * a) * a) * a))
    grind
end Mine
end
section
open PySem PySem.W PySem.Spec PySem.Calls PyProof.Rows
set_option maxRecDepth 100000
namespace Mine
open PySem.Builtin.Int (intBits)
theorem len4 {ks : List Int} (h : ks.length = 4) : ∃ a b c d, ks = [a, b, c, d] :=
  match ks, h with | [a, b, c, d], _ => ⟨a, b, c, d, rfl⟩
theorem forest_bd {ks : List Int} {M W : Int} (hw : WOk ks M W) (hk4 : ks.length = 4) {n k : Nat} {p : Str} (hp : p ∈ pieces) (h1 : 1 ≤ k) (h2 : k ≤ n) (h3 : n ≤ M.toNat) (h4 : n ≤ 4) : 0 ≤ forestW ks n k p ∧ forestW ks n k p ≤ (ppow ks n).getD (n - k) 0 ∧ forestW ks n k p < 2 ^ W.toNat := by
  have hr : (k : Int) * (ppow ks n).getD (n - k) 0 = (n : Int) * forestW ks n k p := by
    obtain ⟨a, b, c, d, rfl⟩ := len4 hk4
    exact raney hp h1 h2 h4
  have hN : NN (ppow ks n) := nn_ppow (fun y hy => (hw.dig y hy).1) n
  have hg := getD_le_sum hN (n - k)
  have hb : (ppow ks n).getD (n - k) 0 < 2 ^ W.toNat := by
    refine Int.lt_of_le_of_lt hg.2 ?_
    rw [sum_ppow]
    exact Int.lt_of_le_of_lt (pow_le_pow_int hw.s0 (by omega) h3) hw.big
  have hn0 : (0 : Int) < (n : Int) := by omega
  have hkn : (k : Int) ≤ (n : Int) := by omega
  have this : 0 ≤ forestW ks n k p ∧ forestW ks n k p ≤ (ppow ks n).getD (n - k) 0 := by
    generalize forestW ks n k p = f at hr
    generalize (ppow ks n).getD (n - k) 0 = g at hr hg
    have h5 := Int.mul_le_mul_of_nonneg_right hkn hg.1
    have h6 : 0 ≤ (k : Int) * g := Int.mul_nonneg (Int.natCast_nonneg k) hg.1
    rw [hr] at h5 h6
    exact ⟨Int.nonneg_of_mul_nonneg_right h6 hn0, Int.le_of_mul_le_mul_left h5 hn0⟩
  exact ⟨this.1, this.2, Int.lt_of_le_of_lt this.2 hb⟩
theorem ppow_len (a b c d : Int) {n : Nat} (h : n ≤ 4) : n ≤ (ppow [a, b, c, d] n).length := by
  match n, h with
  | 0, _ => exact Nat.le_of_ble_eq_true rfl
  | 1, _ => exact Nat.le_of_ble_eq_true rfl
  | 2, _ => exact Nat.le_of_ble_eq_true rfl
  | 3, _ => exact Nat.le_of_ble_eq_true rfl
  | 4, _ => exact Nat.le_of_ble_eq_true rfl
/-- the digits of the kinds' power -/
theorem digs_pow {ks : List Int} {M W : Int} (hw : WOk ks M W) (hk4 : ks.length = 4) {n : Nat} (h1 : 1 ≤ n) (h3 : n ≤ M.toNat) (h4 : n ≤ 4) : digs W.toNat n (dsum W.toNat ks ^ n) = (ppow ks n).take n := by
  rw [← dsum_ppow]
  refine digs_dsum (by obtain ⟨a, b, c, d, rfl⟩ := len4 hk4; exact ppow_len a b c d h4) fun x hx => coef_bd hw h1 h3 x (List.mem_of_mem_take hx)
theorem take_getD {l : List Int} {n i : Nat} (h : i < n) : (l.take n).getD i 0 = l.getD i 0 := by simp [List.getD, h]
/-- the law's first question -/
theorem lawA {ks : List Int} {M W : Int} (hw : WOk ks M W) (hk4 : ks.length = 4) {n k : Nat} {p : Str} (hp : p ∈ pieces) (h1 : 1 ≤ k) (h2 : k ≤ n) (h3 : n ≤ M.toNat) (h4 : n ≤ 4) :
    (k : Int) * (digs W.toNat n (dsum W.toNat ks ^ n)).getD (n - k) 0 = (n : Int) * forestW ks n k p := by
  rw [digs_pow hw hk4 (by omega) h3 h4, take_getD (by omega)]
  obtain ⟨a, b, c, d, rfl⟩ := len4 hk4
  exact raney hp h1 h2 h4
/-- a single number of width w and at most five digits, to a power up to four, has room -/
theorem dsum_sz {W : Int} {l : List Int} (hW : W ≤ 300) (hl : l.length ≤ 5) (hd : ∀ d ∈ l, 0 ≤ d ∧ d < 2 ^ W.toNat) {n : Nat} (hn : n ≤ 4) : 0 ≤ dsum W.toNat l ^ n ∧ dsum W.toNat l ^ n < 2 ^ (64 * W.toNat) + 1 ∧ (0 < W → dsum W.toNat l ^ n < 2 ^ (64 * W.toNat)) ∧ (intBits (dsum W.toNat l) : Int) * (n : Int) ≤ 2 ^ 27 := by
  have hb := dsum_bd hd
  have hb2 : dsum W.toNat l < 2 ^ (W.toNat * 5) := Int.lt_of_lt_of_le hb.2 (pow_mono (Nat.mul_le_mul_left _ hl))
  have hp : 0 ≤ dsum W.toNat l ^ n := Int.pow_nonneg hb.1
  have hle : dsum W.toNat l ^ n ≤ (2 ^ (W.toNat * 5)) ^ n := by
    obtain ⟨x, hx⟩ := Int.eq_ofNat_of_zero_le hb.1
    rw [hx] at hb2 ⊢
    have h1 : x ≤ 2 ^ (W.toNat * 5) := by
      have := Int.le_of_lt hb2
      exact Int.ofNat_le.mp (by simpa using this)
    have h2 := Int.ofNat_le.mpr (Nat.pow_le_pow_left h1 n)
    simpa using h2
  rw [← Int.pow_mul] at hle
  have hm : W.toNat * 5 * n ≤ W.toNat * 5 * 4 := Nat.mul_le_mul_left _ hn
  have hle2 := Int.le_trans hle (pow_mono (by omega : W.toNat * 5 * n ≤ 64 * W.toNat))
  refine ⟨hp, by omega, fun h0 => Int.lt_of_le_of_lt (Int.le_trans hle (pow_mono hm)) ?_, ?_⟩
  · have := Nat.pow_lt_pow_right (by decide : 1 < 2) (by omega : W.toNat * 5 * 4 < 64 * W.toNat)
    have h2 := Int.ofNat_lt.mpr this
    simpa using h2
  · have h3 : intBits (dsum W.toNat l) ≤ W.toNat * 5 := bits_of_lt hb.1 hb2
    have h4 : intBits (dsum W.toNat l) * n ≤ (W.toNat * 5) * 4 := Nat.mul_le_mul h3 hn
    have h5 : ((intBits (dsum W.toNat l) * n : Nat) : Int) ≤ ((W.toNat * 5 * 4 : Nat) : Int) := Int.ofNat_le.mpr h4
    rw [Int.natCast_mul] at h5
    have e : (2 : Int) ^ 27 = 134217728 := by decide
    rw [e]
    omega
theorem tabEl_bd {ks : List Int} {M W : Int} (hw : WOk ks M W) (hM : M = 3 ∨ M = 4) (hk4 : ks.length = 4) {p : Str} (hp : p ∈ pieces) {i t : Nat} (hi : i ≤ M.toNat) : 0 ≤ tabEl ks p i t ∧ tabEl ks p i t < 2 ^ W.toNat := by
  unfold tabEl
  split
  · have h4 : i ≤ 4 := by rcases hM with rfl | rfl <;> simp at hi <;> omega
    have := forest_bd hw hk4 hp (k := t) (n := i) (by omega) (by omega) hi h4
    exact ⟨this.1, this.2.2⟩
  · exact ⟨Int.le_refl 0, Int.pow_pos (by decide)⟩
/-- the column of the table -/
def col (ks : List Int) (p : Str) (M t : Nat) : List Int := (List.range (M + 1)).map fun i => tabEl ks p i t
theorem col_bd {ks : List Int} {M W : Int} (hw : WOk ks M W) (hM : M = 3 ∨ M = 4) (hk4 : ks.length = 4) {p : Str} (hp : p ∈ pieces) {t : Nat} : ∀ d ∈ col ks p M.toNat t, 0 ≤ d ∧ d < 2 ^ W.toNat := by
  intro d hd
  obtain ⟨i, hi, rfl⟩ := List.mem_map.mp hd
  exact tabEl_bd hw hM hk4 hp (by have := List.mem_range.mp hi; omega)
theorem col_len (ks : List Int) (p : Str) (M t : Nat) : (col ks p M t).length = M + 1 := by unfold col; simp
/-- the column, by the rows that are taken -/
def colK (ks : List Int) (M t : Nat) : List Int := (List.range (M + 1)).map fun i => if 0 < t ∧ t ≤ i then (kept i t).foldl (fun a row => a + waysOf ks row) 0 else 0
theorem col_kept {ks : List Int} {p : Str} (hp : p ∈ pieces) {M t : Nat} (hM : M ≤ 4) : col ks p M t = colK ks M t := by
  unfold col colK
  refine List.map_congr_left fun i hi => ?_
  have := List.mem_range.mp hi
  unfold tabEl
  split
  · exact forest_kept hp (by omega) (by omega) (by omega)
  · rfl
theorem colE31 (a b c d : Int) : colK [a, b, c, d] 3 1 = [0, 0 + 1 * a, 0 + 1 * b * a, 0 + 1 * b * b * a + 1 * c * a * a] := rfl
theorem colE32 (a b c d : Int) : colK [a, b, c, d] 3 2 = [0, 0, 0 + 1 * a * a, 0 + 1 * a * b * a + 1 * b * a * a] := rfl
theorem colE33 (a b c d : Int) : colK [a, b, c, d] 3 3 = [0, 0, 0, 0 + 1 * a * a * a] := rfl
theorem colE41 (a b c d : Int) : colK [a, b, c, d] 4 1 = [0, 0 + 1 * a, 0 + 1 * b * a, 0 + 1 * b * b * a + 1 * c * a * a, 0 + 1 * b * b * b * a + 1 * b * c * a * a + 1 * c * a * b * a + 1 * c * b * a * a + 1 * d * a * a * a] := rfl
theorem colE42 (a b c d : Int) : colK [a, b, c, d] 4 2 = [0, 0, 0 + 1 * a * a, 0 + 1 * a * b * a + 1 * b * a * a, 0 + 1 * a * b * b * a + 1 * a * c * a * a + 1 * b * a * b * a + 1 * b * b * a * a + 1 * c * a * a * a] := rfl
theorem colE43 (a b c d : Int) : colK [a, b, c, d] 4 3 = [0, 0, 0, 0 + 1 * a * a * a, 0 + 1 * a * a * b * a + 1 * a * b * a * a + 1 * b * a * a * a] := rfl
theorem colE44 (a b c d : Int) : colK [a, b, c, d] 4 4 = [0, 0, 0, 0, 0 + 1 * a * a * a * a] := rfl
theorem l4_eq {a b c d a' b' c' d' : Int} (h1 : a = a') (h2 : b = b') (h3 : c = c') (h4 : d = d') : [a, b, c, d] = [a', b', c', d'] := by rw [h1, h2, h3, h4]
theorem l5_eq {a b c d e a' b' c' d' e' : Int} (h1 : a = a') (h2 : b = b') (h3 : c = c') (h4 : d = d') (h5 : e = e') : [a, b, c, d, e] = [a', b', c', d', e'] := by rw [h1, h2, h3, h4, h5]
theorem at42 (f1 f2 f3 : Int) : (ppow [0, f1, f2, f3] 2).take 4 = [0, 0, f1 * f1, 2 * (f1 * f2)] := by
  refine (show [(((0 * ((0 * 1) + 0)) + 0) : Int), (((0 * ((f1 * 1) + 0)) + ((f1 * ((0 * 1) + 0)) + 0)) : Int), (((0 * ((f2 * 1) + 0)) + ((f1 * ((f1 * 1) + 0)) + ((f2 * ((0 * 1) + 0)) + 0))) : Int), (((0 * ((f3 * 1) + 0)) + ((f1 * ((f2 * 1) + 0)) + ((f2 * ((f1 * 1) + 0)) + ((f3 * ((0 * 1) + 0)) + 0)))) : Int)] = [0, 0, f1 * f1, 2 * (f1 * f2)] from l4_eq ?a0 ?a1 ?a2 ?a3)
  case a0 => grind
  case a1 => grind
  case a2 => grind
  case a3 => grind
theorem at43 (f1 f2 f3 : Int) : (ppow [0, f1, f2, f3] 3).take 4 = [0, 0, 0, f1 * f1 * f1] := by
  refine (show [(((0 * ((0 * ((0 * 1) + 0)) + 0)) + 0) : Int), (((0 * ((0 * ((f1 * 1) + 0)) + ((f1 * ((0 * 1) + 0)) + 0))) + ((f1 * ((0 * ((0 * 1) + 0)) + 0)) + 0)) : Int), (((0 * ((0 * ((f2 * 1) + 0)) + ((f1 * ((f1 * 1) + 0)) + ((f2 * ((0 * 1) + 0)) + 0)))) + ((f1 * ((0 * ((f1 * 1) + 0)) + ((f1 * ((0 * 1) + 0)) + 0))) + ((f2 * ((0 * ((0 * 1) + 0)) + 0)) + 0))) : Int), (((0 * ((0 * ((f3 * 1) + 0)) + ((f1 * ((f2 * 1) + 0)) + ((f2 * ((f1 * 1) + 0)) + ((f3 * ((0 * 1) + 0)) + 0))))) + ((f1 * ((0 * ((f2 * 1) + 0)) + ((f1 * ((f1 * 1) + 0)) + ((f2 * ((0 * 1) + 0)) + 0)))) + ((f2 * ((0 * ((f1 * 1) + 0)) + ((f1 * ((0 * 1) + 0)) + 0))) + ((f3 * ((0 * ((0 * 1) + 0)) + 0)) + 0)))) : Int)] = [0, 0, 0, f1 * f1 * f1] from l4_eq ?a0 ?a1 ?a2 ?a3)
  case a0 => grind
  case a1 => grind
  case a2 => grind
  case a3 => grind
theorem at52 (f1 f2 f3 f4 : Int) : (ppow [0, f1, f2, f3, f4] 2).take 5 = [0, 0, f1 * f1, 2 * (f1 * f2), 2 * (f1 * f3) + f2 * f2] := by
  refine (show [(((0 * ((0 * 1) + 0)) + 0) : Int), (((0 * ((f1 * 1) + 0)) + ((f1 * ((0 * 1) + 0)) + 0)) : Int), (((0 * ((f2 * 1) + 0)) + ((f1 * ((f1 * 1) + 0)) + ((f2 * ((0 * 1) + 0)) + 0))) : Int), (((0 * ((f3 * 1) + 0)) + ((f1 * ((f2 * 1) + 0)) + ((f2 * ((f1 * 1) + 0)) + ((f3 * ((0 * 1) + 0)) + 0)))) : Int), (((0 * ((f4 * 1) + 0)) + ((f1 * ((f3 * 1) + 0)) + ((f2 * ((f2 * 1) + 0)) + ((f3 * ((f1 * 1) + 0)) + ((f4 * ((0 * 1) + 0)) + 0))))) : Int)] = [0, 0, f1 * f1, 2 * (f1 * f2), 2 * (f1 * f3) + f2 * f2] from l5_eq ?a0 ?a1 ?a2 ?a3 ?a4)
  case a0 => grind
  case a1 => grind
  case a2 => grind
  case a3 => grind
  case a4 => grind
theorem at53 (f1 f2 f3 f4 : Int) : (ppow [0, f1, f2, f3, f4] 3).take 5 = [0, 0, 0, f1 * f1 * f1, 3 * (f1 * f1 * f2)] := by
  refine (show [(((0 * ((0 * ((0 * 1) + 0)) + 0)) + 0) : Int), (((0 * ((0 * ((f1 * 1) + 0)) + ((f1 * ((0 * 1) + 0)) + 0))) + ((f1 * ((0 * ((0 * 1) + 0)) + 0)) + 0)) : Int), (((0 * ((0 * ((f2 * 1) + 0)) + ((f1 * ((f1 * 1) + 0)) + ((f2 * ((0 * 1) + 0)) + 0)))) + ((f1 * ((0 * ((f1 * 1) + 0)) + ((f1 * ((0 * 1) + 0)) + 0))) + ((f2 * ((0 * ((0 * 1) + 0)) + 0)) + 0))) : Int), (((0 * ((0 * ((f3 * 1) + 0)) + ((f1 * ((f2 * 1) + 0)) + ((f2 * ((f1 * 1) + 0)) + ((f3 * ((0 * 1) + 0)) + 0))))) + ((f1 * ((0 * ((f2 * 1) + 0)) + ((f1 * ((f1 * 1) + 0)) + ((f2 * ((0 * 1) + 0)) + 0)))) + ((f2 * ((0 * ((f1 * 1) + 0)) + ((f1 * ((0 * 1) + 0)) + 0))) + ((f3 * ((0 * ((0 * 1) + 0)) + 0)) + 0)))) : Int), (((0 * ((0 * ((f4 * 1) + 0)) + ((f1 * ((f3 * 1) + 0)) + ((f2 * ((f2 * 1) + 0)) + ((f3 * ((f1 * 1) + 0)) + ((f4 * ((0 * 1) + 0)) + 0)))))) + ((f1 * ((0 * ((f3 * 1) + 0)) + ((f1 * ((f2 * 1) + 0)) + ((f2 * ((f1 * 1) + 0)) + ((f3 * ((0 * 1) + 0)) + 0))))) + ((f2 * ((0 * ((f2 * 1) + 0)) + ((f1 * ((f1 * 1) + 0)) + ((f2 * ((0 * 1) + 0)) + 0)))) + ((f3 * ((0 * ((f1 * 1) + 0)) + ((f1 * ((0 * 1) + 0)) + 0))) + ((f4 * ((0 * ((0 * 1) + 0)) + 0)) + 0))))) : Int)] = [0, 0, 0, f1 * f1 * f1, 3 * (f1 * f1 * f2)] from l5_eq ?a0 ?a1 ?a2 ?a3 ?a4)
  case a0 => grind
  case a1 => grind
  case a2 => grind
  case a3 => grind
  case a4 => grind
theorem at54 (f1 f2 f3 f4 : Int) : (ppow [0, f1, f2, f3, f4] 4).take 5 = [0, 0, 0, 0, f1 * f1 * f1 * f1] := by
  refine (show [(((0 * ((0 * ((0 * ((0 * 1) + 0)) + 0)) + 0)) + 0) : Int), (((0 * ((0 * ((0 * ((f1 * 1) + 0)) + ((f1 * ((0 * 1) + 0)) + 0))) + ((f1 * ((0 * ((0 * 1) + 0)) + 0)) + 0))) + ((f1 * ((0 * ((0 * ((0 * 1) + 0)) + 0)) + 0)) + 0)) : Int), (((0 * ((0 * ((0 * ((f2 * 1) + 0)) + ((f1 * ((f1 * 1) + 0)) + ((f2 * ((0 * 1) + 0)) + 0)))) + ((f1 * ((0 * ((f1 * 1) + 0)) + ((f1 * ((0 * 1) + 0)) + 0))) + ((f2 * ((0 * ((0 * 1) + 0)) + 0)) + 0)))) + ((f1 * ((0 * ((0 * ((f1 * 1) + 0)) + ((f1 * ((0 * 1) + 0)) + 0))) + ((f1 * ((0 * ((0 * 1) + 0)) + 0)) + 0))) + ((f2 * ((0 * ((0 * ((0 * 1) + 0)) + 0)) + 0)) + 0))) : Int), (((0 * ((0 * ((0 * ((f3 * 1) + 0)) + ((f1 * ((f2 * 1) + 0)) + ((f2 * ((f1 * 1) + 0)) + ((f3 * ((0 * 1) + 0)) + 0))))) + ((f1 * ((0 * ((f2 * 1) + 0)) + ((f1 * ((f1 * 1) + 0)) + ((f2 * ((0 * 1) + 0)) + 0)))) + ((f2 * ((0 * ((f1 * 1) + 0)) + ((f1 * ((0 * 1) + 0)) + 0))) + ((f3 * ((0 * ((0 * 1) + 0)) + 0)) + 0))))) + ((f1 * ((0 * ((0 * ((f2 * 1) + 0)) + ((f1 * ((f1 * 1) + 0)) + ((f2 * ((0 * 1) + 0)) + 0)))) + ((f1 * ((0 * ((f1 * 1) + 0)) + ((f1 * ((0 * 1) + 0)) + 0))) + ((f2 * ((0 * ((0 * 1) + 0)) + 0)) + 0)))) + ((f2 * ((0 * ((0 * ((f1 * 1) + 0)) + ((f1 * ((0 * 1) + 0)) + 0))) + ((f1 * ((0 * ((0 * 1) + 0)) + 0)) + 0))) + ((f3 * ((0 * ((0 * ((0 * 1) + 0)) + 0)) + 0)) + 0)))) : Int), (((0 * ((0 * ((0 * ((f4 * 1) + 0)) + ((f1 * ((f3 * 1) + 0)) + ((f2 * ((f2 * 1) + 0)) + ((f3 * ((f1 * 1) + 0)) + ((f4 * ((0 * 1) + 0)) + 0)))))) + ((f1 * ((0 * ((f3 * 1) + 0)) + ((f1 * ((f2 * 1) + 0)) + ((f2 * ((f1 * 1) + 0)) + ((f3 * ((0 * 1) + 0)) + 0))))) + ((f2 * ((0 * ((f2 * 1) + 0)) + ((f1 * ((f1 * 1) + 0)) + ((f2 * ((0 * 1) + 0)) + 0)))) + ((f3 * ((0 * ((f1 * 1) + 0)) + ((f1 * ((0 * 1) + 0)) + 0))) + ((f4 * ((0 * ((0 * 1) + 0)) + 0)) + 0)))))) + ((f1 * ((0 * ((0 * ((f3 * 1) + 0)) + ((f1 * ((f2 * 1) + 0)) + ((f2 * ((f1 * 1) + 0)) + ((f3 * ((0 * 1) + 0)) + 0))))) + ((f1 * ((0 * ((f2 * 1) + 0)) + ((f1 * ((f1 * 1) + 0)) + ((f2 * ((0 * 1) + 0)) + 0)))) + ((f2 * ((0 * ((f1 * 1) + 0)) + ((f1 * ((0 * 1) + 0)) + 0))) + ((f3 * ((0 * ((0 * 1) + 0)) + 0)) + 0))))) + ((f2 * ((0 * ((0 * ((f2 * 1) + 0)) + ((f1 * ((f1 * 1) + 0)) + ((f2 * ((0 * 1) + 0)) + 0)))) + ((f1 * ((0 * ((f1 * 1) + 0)) + ((f1 * ((0 * 1) + 0)) + 0))) + ((f2 * ((0 * ((0 * 1) + 0)) + 0)) + 0)))) + ((f3 * ((0 * ((0 * ((f1 * 1) + 0)) + ((f1 * ((0 * 1) + 0)) + 0))) + ((f1 * ((0 * ((0 * 1) + 0)) + 0)) + 0))) + ((f4 * ((0 * ((0 * ((0 * 1) + 0)) + 0)) + 0)) + 0))))) : Int)] = [0, 0, 0, 0, f1 * f1 * f1 * f1] from l5_eq ?a0 ?a1 ?a2 ?a3 ?a4)
  case a0 => grind
  case a1 => grind
  case a2 => grind
  case a3 => grind
  case a4 => grind
theorem ppow_one (l : List Int) (h : l ≠ []) : ppow l 1 = l := by
  have h1 : ∀ l : List Int, l ≠ [] → pmul l [1] = l := by
    intro l
    induction l with
    | nil => exact fun h => absurd rfl h
    | cons a r ih =>
      intro _
      cases r with
      | nil => simp [pmul, padd]
      | cons b r => rw [pmul, ih (by simp)]; simp [padd]
  exact h1 l h
theorem tree_pow {a b c d : Int} {M t : Nat} (hM : M = 3 ∨ M = 4) (h1 : 1 ≤ t) (h2 : t ≤ M) : M + 1 ≤ (ppow (colK [a, b, c, d] M 1) t).length ∧ (ppow (colK [a, b, c, d] M 1) t).take (M + 1) = colK [a, b, c, d] M t := by
  have h4 : M ≤ 4 := by rcases hM with rfl | rfl <;> decide
  rcases nk_cases M h4 t h1 h2 with ⟨rfl, rfl⟩ | ⟨rfl, rfl⟩ | ⟨rfl, rfl⟩ | ⟨rfl, rfl⟩ | ⟨rfl, rfl⟩ | ⟨rfl, rfl⟩ | ⟨rfl, rfl⟩ | ⟨rfl, rfl⟩ | ⟨rfl, rfl⟩ | ⟨rfl, rfl⟩
  · exact absurd hM (by decide)
  · exact absurd hM (by decide)
  · exact absurd hM (by decide)
  · rw [colE31, ppow_one _ (by simp)]; exact ⟨Nat.le_refl _, rfl⟩
  · rw [colE31, colE32]
    refine ⟨?_, (at42 _ _ _).trans ?_⟩
    · exact Nat.le_of_ble_eq_true rfl
    · simp only [List.cons.injEq, and_true, true_and]
      grind
  · rw [colE31, colE33]
    refine ⟨?_, (at43 _ _ _).trans ?_⟩
    · exact Nat.le_of_ble_eq_true rfl
    · simp only [List.cons.injEq, and_true, true_and]
      grind
  · rw [colE41, ppow_one _ (by simp)]; exact ⟨Nat.le_refl _, rfl⟩
  · rw [colE41, colE42]
    refine ⟨?_, (at52 _ _ _ _).trans ?_⟩
    · exact Nat.le_of_ble_eq_true rfl
    · simp only [List.cons.injEq, and_true, true_and]
      grind
  · rw [colE41, colE43]
    refine ⟨?_, (at53 _ _ _ _).trans ?_⟩
    · exact Nat.le_of_ble_eq_true rfl
    · simp only [List.cons.injEq, and_true, true_and]
      grind
  · rw [colE41, colE44]
    refine ⟨?_, (at54 _ _ _ _).trans ?_⟩
    · exact Nat.le_of_ble_eq_true rfl
    · simp only [List.cons.injEq, and_true, true_and]
      grind
/-- the law's second question -/
theorem lawB {ks : List Int} {M W : Int} (hw : WOk ks M W) (hM : M = 3 ∨ M = 4) (hk4 : ks.length = 4) {p : Str} (hp : p ∈ pieces) {t : Nat} (h1 : 1 ≤ t) (h2 : t ≤ M.toNat) :
    digs W.toNat (M.toNat + 1) (dsum W.toNat (col ks p M.toNat 1) ^ t) = col ks p M.toNat t := by
  have hMn : M.toNat = 3 ∨ M.toNat = 4 := by rcases hM with rfl | rfl <;> simp
  have hM4 : M.toNat ≤ 4 := by omega
  have ht : M.toNat + 1 ≤ (ppow (col ks p M.toNat 1) t).length ∧ (ppow (col ks p M.toNat 1) t).take (M.toNat + 1) = col ks p M.toNat t := by
    rw [col_kept hp hM4, col_kept hp hM4]
    obtain ⟨a, b, c, d, rfl⟩ := len4 hk4
    exact tree_pow hMn h1 h2
  rw [← dsum_ppow, digs_dsum ht.1, ht.2]
  rw [ht.2]
  exact col_bd hw hM hk4 hp
end Mine
end
section
open PySem PySem.W PySem.Spec PySem.Calls PyProof.Rows
set_option maxRecDepth 100000
namespace Mine
/-- the law's frame within a turn of the main loop -/
def mI (lR DF lT : Addr) (W : Int) (tw : Tok) (M : Int) (tm : Tok) (mm : Str → Option Value) : Str → Option Value := fun y =>
  if y = Str.ofString "rows" then some (.ref lR) else if y = Str.ofString "forests" then some (.ref DF) else if y = Str.ofString "table" then some (.ref lT) else if y = Str.ofString "width" then some (.int W tw) else if y = Str.ofString "most" then some (.int M tm) else mm y
theorem mI_self {lR DF lT : Addr} {W : Int} {tw : Tok} {M : Int} {tm : Tok} {m : Str → Option Value} (h1 : m (Str.ofString "rows") = some (.ref lR)) (h2 : m (Str.ofString "forests") = some (.ref DF)) (h3 : m (Str.ofString "table") = some (.ref lT)) (h4 : m (Str.ofString "width") = some (.int W tw)) (h5 : m (Str.ofString "most") = some (.int M tm)) : m = mI lR DF lT W tw M tm m := by
  funext y
  unfold mI
  split
  · rename_i h; rw [h]; exact h1
  · split
    · rename_i h; rw [h]; exact h2
    · have := congrFun (mL_self h3 h4 h5) y
      unfold mL at this
      exact this
/-- the law's frame at its end -/
def mE (lT : Addr) (W : Int) (tw : Tok) (M : Int) (tm : Tok) (S : Int) (ts : Tok) (mm : Str → Option Value) : Str → Option Value := fun y =>
  if y = Str.ofString "single" then some (.int S ts) else if y = Str.ofString "table" then some (.ref lT) else if y = Str.ofString "width" then some (.int W tw) else if y = Str.ofString "most" then some (.int M tm) else mm y
theorem mE_self {lT : Addr} {W : Int} {tw : Tok} {M : Int} {tm : Tok} {S : Int} {ts : Tok} {m : Str → Option Value} (h1 : m (Str.ofString "single") = some (.int S ts)) (h3 : m (Str.ofString "table") = some (.ref lT)) (h4 : m (Str.ofString "width") = some (.int W tw)) (h5 : m (Str.ofString "most") = some (.int M tm)) : m = mE lT W tw M tm S ts m := by
  funext y
  unfold mE
  split
  · rename_i h; rw [h]; exact h1
  · have := congrFun (mL_self h3 h4 h5) y
    unfold mL at this
    exact this
theorem item_intsE {prog : Program} {w : World} {A : Around} {E : Value → Shared → Prop} {s : Shared} {value slice : PySem.Expr} {l : Addr} {vs : List Value} {ns : List Int} {d x : Int} {u : Tok} {Q : Value → Shared → Prop}
    (hl : s.heap.IsList l vs.toArray) (hI : IntsAre vs ns) (h0 : 0 ≤ d) (hd : d < (ns.length : Int)) (hn : ns.length ≤ 1000) (hx : ns.getD d.toNat 0 = x) (h : ∀ t, Q (.int x t) s)
    (hs : subscripted slice false (.ref l) (.int d u) = operate [.ref l, .int d u] (getItem (.ref l) (.int d u)) := by with_unfolding_all rfl) :
    wpAny (model prog w) A (subscriptTail value slice (.ref l) (.int d u)) Q E s := item_ints hl hI h0 hd hn (fun t => hx ▸ h t) hs
theorem reads_ints {h : Heap} {vs : List Value} {ns : List Int} (hI : IntsAre vs ns) : ReadsAll h vs (ns.map PyData.int) [] := by
  induction hI with
  | nil => exact .nil
  | cons n t _ ih => exact ReadsAll.cons (.int n t) ih
theorem eqv_ints (ns : List Int) : PyData.eqvAll (ns.map .int) (ns.map .int) = true := by
  induction ns with
  | nil => rfl
  | cons n r ih =>
    rw [List.map_cons, PyData.eqvAll, ih, Bool.and_true]
    show (n == n) = true
    simp
theorem lay_ints (ns : List Int) : PyData.canLayAll0 (ns.map .int) = true := by
  induction ns with
  | nil => rfl
  | cons n r ih => rw [List.map_cons, PyData.canLayAll0, ih]; rfl
theorem depth_ints (ns : List Int) : PyData.depthAll (ns.map .int) = 0 := by
  induction ns with
  | nil => rfl
  | cons n r ih =>
    rw [List.map_cons, PyData.depthAll, ih]
    rfl
/-- two lists of the same numbers are not unlike -/
theorem ne_lists {prog : Program} {w : World} {A : Around} {E : Value → Shared → Prop} {s : Shared} {a b : Addr} {vs ws : List Value} {k j : Nat} {ns ms : List Int} {Q : Value → Shared → Prop}
    (ha : s.heap.get? a = some (listOf vs.toArray k)) (hb : s.heap.get? b = some (listOf ws.toArray j)) (hI : IntsAre vs ns) (hJ : IntsAre ws ms) (he : ns = ms) (hu : A.units + 1 < cLine) (h : Q (.bool false) s) :
    wpAny (model prog w) A (compareOp .NotEq (.ref a) (.ref b)) Q E s := by
  subst he
  refine SeqAt.compareNe_reads (da := .list (ns.map .int)) (db := .list (ns.map .int)) (Reads.list ha rfl rfl (reads_ints hI)) (Reads.list hb rfl rfl (reads_ints hJ)) (lay_ints ns) (lay_ints ns) ?_ ?_
  · rw [PyData.depth, depth_ints, Nat.min_self]; exact hu
  · rw [PyData.eqv, eqv_ints]; exact h
/-- two pairs of the same numbers are not unlike -/
theorem ne_pairs {prog : Program} {w : World} {A : Around} {E : Value → Shared → Prop} {s : Shared} {a b : Addr} {oa ob : Obj} {x y x' y' : Int} {t u t' u' : Tok} {n n' : Nat} {Q : Value → Shared → Prop}
    (ha : s.heap.get? a = some oa) (hca : oa.cls = .type "tuple") (hda : oa.data = .seq #[.int x t, .int y u] n) (hb : s.heap.get? b = some ob) (hcb : ob.cls = .type "tuple") (hdb : ob.data = .seq #[.int x' t', .int y' u'] n')
    (hx : x = x') (hy : y = y') (hu : A.units + 1 < cLine) (h : Q (.bool false) s) :
    wpAny (model prog w) A (compareOp .NotEq (.ref a) (.ref b)) Q E s := by
  subst hx hy
  refine SeqAt.compareNe_reads (da := .tuple ([x, y].map .int)) (db := .tuple ([x, y].map .int)) (Reads.tuple ha hca hda (reads_ints (.cons _ _ (.cons _ _ .nil)))) (Reads.tuple hb hcb hdb (reads_ints (.cons _ _ (.cons _ _ .nil)))) (lay_ints _) (lay_ints _) ?_ ?_
  · rw [PyData.depth, depth_ints, Nat.min_self]; exact hu
  · rw [PyData.eqv, eqv_ints]; exact h
end Mine
namespace Mine
theorem mvEnd {α : Type} {r k d i c a b e t p q : α} {A B O : List α} : (t :: r :: k :: d :: i :: c :: a :: b :: e :: p :: q :: (A ++ (B ++ O))).Perm (r :: i :: c :: ([a, b, e, k] ++ t :: p :: q :: (A ++ (B ++ (d :: O))))) := by
  classical
  rw [List.perm_iff_count]
  intro z
  simp only [List.count_cons, List.count_append, List.count_nil]
  omega
theorem mvT {α : Type} {r k d i c a b e t : α} {R : List α} : (r :: k :: d :: i :: c :: a :: b :: e :: t :: R).Perm (t :: r :: k :: d :: i :: c :: a :: b :: e :: R) := List.perm_middle (l₁ := [r, k, d, i, c, a, b, e])
end Mine
namespace Mine
theorem no1 {a : Nat} : a ≠ a + 1 := Nat.ne_of_lt (Nat.lt_succ_self a)
theorem no2 {a : Nat} : a ≠ a + 1 + 1 := Nat.ne_of_lt (Nat.lt_succ_of_lt (Nat.lt_succ_self a))
theorem no3 {a : Nat} : a ≠ a + 1 + 1 + 1 := Nat.ne_of_lt (Nat.lt_succ_of_lt (Nat.lt_succ_of_lt (Nat.lt_succ_self a)))
theorem no1r {a : Nat} : a + 1 ≠ a := no1.symm
theorem no2r {a : Nat} : a + 1 + 1 ≠ a := no2.symm
theorem no3r {a : Nat} : a + 1 + 1 + 1 ≠ a := no3.symm
theorem g3 {a b : Nat} (h : a < b) : b + 1 + 1 + 1 ≠ a := Nat.ne_of_gt (Nat.lt_succ_of_lt (Nat.lt_succ_of_lt (Nat.lt_succ_of_lt h)))
theorem g4 {a b : Nat} (h : a < b) : b + 1 + 1 + 1 + 1 ≠ a := g3 (Nat.lt_succ_of_lt h)
theorem g5 {a b : Nat} (h : a < b) : b + 1 + 1 + 1 + 1 + 1 ≠ a := g4 (Nat.lt_succ_of_lt h)
theorem g6 {a b : Nat} (h : a < b) : b + 1 + 1 + 1 + 1 + 1 + 1 ≠ a := g5 (Nat.lt_succ_of_lt h)
theorem nd9 {Z lK l0 lT : Nat} {a b c d e f g h i : Obj} (h30 : 30 < Z ∧ 37 < Z) (k1 : Z + 1 + 1 + 1 + 1 + 1 ≠ lK) (k2 : Z + 1 + 1 + 1 + 1 + 1 + 1 ≠ lK) (k3 : Z + 1 + 1 + 1 + 1 ≠ lK) (k4 : Z + 1 + 1 + 1 ≠ lK) (k5 : 30 ≠ lK) (k6 : 37 ≠ lK) (h0 : lK < l0) (h1 : Z + 6 < l0) (hT : l0 < lT) :
    Nd [(Z + 1 + 1 + 1 + 1 + 1, a), (Z + 1 + 1 + 1 + 1 + 1 + 1, b), (Z + 1 + 1 + 1 + 1, c), (Z + 1 + 1 + 1, d), (lK, e), (lT, f), (30, g), (37, h), (l0, i)] := by
  have u6 : Z + 1 + 1 + 1 + 1 + 1 + 1 < l0 := h1
  have u5 := Nat.lt_of_succ_lt u6
  have u4 := Nat.lt_of_succ_lt u5
  have u3 := Nat.lt_of_succ_lt u4
  have t6 := Nat.lt_trans u6 hT
  have t5 := Nat.lt_trans u5 hT
  have t4 := Nat.lt_trans u4 hT
  have t3 := Nat.lt_trans u3 hT
  have vz : Z < l0 := Nat.lt_of_succ_lt (Nat.lt_of_succ_lt (Nat.lt_of_succ_lt u3))
  have v30 := Nat.lt_trans h30.1 vz
  have v37 := Nat.lt_trans h30.2 vz
  have key : List.Pairwise (@Ne Nat) [Z + 1 + 1 + 1 + 1 + 1, Z + 1 + 1 + 1 + 1 + 1 + 1, Z + 1 + 1 + 1 + 1, Z + 1 + 1 + 1, lK, lT, 30, 37, l0] := List.Pairwise.cons (List.forall_mem_cons.mpr ⟨no1, List.forall_mem_cons.mpr ⟨no1r, List.forall_mem_cons.mpr ⟨no2r, List.forall_mem_cons.mpr ⟨k1, List.forall_mem_cons.mpr ⟨Nat.ne_of_lt t5, List.forall_mem_cons.mpr ⟨g5 h30.1, List.forall_mem_cons.mpr ⟨g5 h30.2, List.forall_mem_cons.mpr ⟨Nat.ne_of_lt u5, List.forall_mem_nil _⟩⟩⟩⟩⟩⟩⟩⟩)
    (List.Pairwise.cons (List.forall_mem_cons.mpr ⟨no2r, List.forall_mem_cons.mpr ⟨no3r, List.forall_mem_cons.mpr ⟨k2, List.forall_mem_cons.mpr ⟨Nat.ne_of_lt t6, List.forall_mem_cons.mpr ⟨g6 h30.1, List.forall_mem_cons.mpr ⟨g6 h30.2, List.forall_mem_cons.mpr ⟨Nat.ne_of_lt u6, List.forall_mem_nil _⟩⟩⟩⟩⟩⟩⟩)
    (List.Pairwise.cons (List.forall_mem_cons.mpr ⟨no1r, List.forall_mem_cons.mpr ⟨k3, List.forall_mem_cons.mpr ⟨Nat.ne_of_lt t4, List.forall_mem_cons.mpr ⟨g4 h30.1, List.forall_mem_cons.mpr ⟨g4 h30.2, List.forall_mem_cons.mpr ⟨Nat.ne_of_lt u4, List.forall_mem_nil _⟩⟩⟩⟩⟩⟩)
    (List.Pairwise.cons (List.forall_mem_cons.mpr ⟨k4, List.forall_mem_cons.mpr ⟨Nat.ne_of_lt t3, List.forall_mem_cons.mpr ⟨g3 h30.1, List.forall_mem_cons.mpr ⟨g3 h30.2, List.forall_mem_cons.mpr ⟨Nat.ne_of_lt u3, List.forall_mem_nil _⟩⟩⟩⟩⟩)
    (List.Pairwise.cons (List.forall_mem_cons.mpr ⟨Nat.ne_of_lt (Nat.lt_trans h0 hT), List.forall_mem_cons.mpr ⟨Ne.symm k5, List.forall_mem_cons.mpr ⟨Ne.symm k6, List.forall_mem_cons.mpr ⟨Nat.ne_of_lt h0, List.forall_mem_nil _⟩⟩⟩⟩)
    (List.Pairwise.cons (List.forall_mem_cons.mpr ⟨Nat.ne_of_gt (Nat.lt_trans v30 hT), List.forall_mem_cons.mpr ⟨Nat.ne_of_gt (Nat.lt_trans v37 hT), List.forall_mem_cons.mpr ⟨Nat.ne_of_gt hT, List.forall_mem_nil _⟩⟩⟩)
    (List.Pairwise.cons (List.forall_mem_cons.mpr ⟨(by decide : (30 : Nat) ≠ 37), List.forall_mem_cons.mpr ⟨Nat.ne_of_lt v30, List.forall_mem_nil _⟩⟩)
    (List.Pairwise.cons (List.forall_mem_cons.mpr ⟨Nat.ne_of_lt v37, List.forall_mem_nil _⟩)
    (List.Pairwise.cons (List.forall_mem_nil _)
    (List.Pairwise.nil)))))))))
  exact List.pairwise_map.mp (show List.Pairwise (@Ne Nat) (List.map Prod.fst [(Z + 1 + 1 + 1 + 1 + 1, a), (Z + 1 + 1 + 1 + 1 + 1 + 1, b), (Z + 1 + 1 + 1 + 1, c), (Z + 1 + 1 + 1, d), (lK, e), (lT, f), ((30 : Nat), g), (37, h), (l0, i)]) from key)
end Mine
end
section
theorem Mine.off_LAW : True := by
  w_top off
  trivial
open PySem PySem.W PySem.Spec PySem.Calls PyProof.Rows
set_option Elab.async false
set_option maxRecDepth 100000
set_option maxHeartbeats 8000000
namespace Mine
local macro_rules | `(tactic| walk_at "call ref") => `(tactic| (k_here; (with_reducible show wpAny _ _ (call (Value.ref _) _ _) _ _ _); refine hold ?_))
local macro_rules | `(tactic| kn_posts) => `(tactic| refine kn_postG (by assumption) (fun _ _ => rfl) ?_)
local macro_rules | `(tactic| walk_at "exec For Name Call cons nil") => `(tactic| (k_here; refine hold ?_))
local macro_rules | `(tactic| walk_at "eval ListComp") => `(tactic| (k_here; (with_reducible show wpAny _ _ (eval (PySem.Expr.ListComp (PySem.Expr.IfExp _ _ _ _) _ _ _) _) _ _ _); refine hold ?_))
local macro_rules | `(tactic| walk_at "eval ListComp") => `(tactic| (k_here; (with_reducible show wpAny _ _ (eval (PySem.Expr.ListComp (PySem.Expr.Subscript _ _ _) _ _ _) _) _ _ _); refine hold ?_))
local macro_rules | `(tactic| walk_at "exec Assign cons ListComp") => `(tactic| (k_here; (with_reducible show wpAny _ _ (exec (PySem.Stmt.Assign _ (PySem.Expr.ListComp (PySem.Expr.IfExp _ _ _ _) _ _ _) _) _) _ _ _); refine hold ?_))
local macro_rules | `(tactic| walk_at "subscriptTail") => `(tactic| (k_here; (with_reducible show wpAny _ _ (subscriptTail (PySem.Expr.List _ _) _ _ _) _ _ _); refine hold ?_))
local macro_rules | `(tactic| walk_at "subscriptTail") => `(tactic| (k_here; (with_reducible show wpAny _ _ (subscriptTail (PySem.Expr.Name (Str.ofString "line") _) _ _ _) _ _ _); refine hold ?_))
theorem law_holds : PySem.Challenge.rw_ph0116_01.Holds := Mine.hd (by
  k_go0
  all_goals try k_fold
  k_steps
  unfold Hold
  rename News _ _ _ _ => NP
  rename IntsAre _ (List.map _ (rangeKs _ _)) => hK
  k_dflt (refine' item_piece ⟨_, (NP _ (.head _)).1, rfl, _, rfl⟩ (.cons _ _ (.cons _ _ (.cons _ _ (.cons _ _ .nil)))) ?a1 ?a2 ?_)
  case a1 => exact (fmod4 _).1
  case a2 => exact (fmod4 _).2
  intro p tp hp
  k_steps
  unfold Hold
  refine wpAny_For ?_ (by intro _; rfl)
  k_steps
  rename IsRange _ _ _ _ _ _ _ _ => hr
  rename_i w s0 s1 mg mb _ _ _ _ _ _ _ _ _ hg _ _ _ _ _ _ ns _ _ _ _ _ _ _ lsc vsc _ _ _ _ _ hIs _ hcon _ _ h1 tk1 oPow oN _ _ _ oSc _ _ _ _ _ _ _ X T B C30 hZ lOwn _ _ _ oOwn dOwn _ _ _ _ _ _ _ _ _ _ _ lK _ _ oneK _ oK dK _ _ _ _ _ _ _ lPs _ _ _ oP dP _ _ _ _ _ tkz lz _ _ l0 _ i0 n0 sz0 e01 _ e03 lt0 lT _ ltT _ F0 N0 hA tkA _ _ _ FA NA kA
  have C37 := codeHd
  have hM := most_of ns.sum
  obtain ⟨hs1, hs2⟩ := small_most hM
  obtain ⟨hs3, hs4⟩ := small_most0 hM
  obtain ⟨ks, hksd, hKi⟩ : ∃ ks, ks = _ ∧ IntsAre ys ks := ⟨_, rfl, hK⟩
  have hk4 : ks.length = 4 := by rw [hksd]; rfl
  have hkb : ∀ x ∈ ks, 0 ≤ x ∧ x < 2 ^ 40 := by
    rw [hksd]
    refine fmod_ok fun k => ?_
    split
    · exact ⟨_, rfl⟩
    · exact ⟨_, rfl⟩
  rw [← hksd] at FA
  clear hksd hK
  obtain ⟨M, hMd⟩ : ∃ M, M = 3 + ns.sum.fmod 2 := ⟨_, rfl⟩
  rw [← hMd] at FA hM hs1 hs2 hs3 hs4 hr NA i0
  obtain ⟨W, hWd⟩ : ∃ W : Int, W = M * (Builtin.Int.intBits ks.sum : Int) + 1 + ns.sum.fmod 50 := ⟨_, rfl⟩
  rw [← hWd] at FA
  have N1 : News (ghostOf s1.heap [(34, 30), (41, 37)]) s1.heap.objs.size hA ((s1.heap.objs.size + 1 + 1 + 1 + 1 + 1, oN) :: MADE #[] #[] [] [] [(s1.heap.objs.size + 1 + 1 + 1 + 1 + 1 + 1, oPow), (s1.heap.objs.size + 1 + 1 + 1 + 1, oP), (s1.heap.objs.size + 1 + 1 + 1, oK), (lK, LCg.lst ys)] lT [.ref l0] 0 [(l0, listOf (List.replicate (M + 1).toNat [Value.int 0 tkz]).flatten.toArray 0)]) := by
    refine News.sub NA ?_
    unfold MADE
    exact List.forall_mem_cons.mpr ⟨by k_mem, List.forall_mem_cons.mpr ⟨by k_mem, List.forall_mem_cons.mpr ⟨by k_mem, List.forall_mem_cons.mpr ⟨by k_mem, List.forall_mem_cons.mpr ⟨by k_mem, List.forall_mem_cons.mpr ⟨by k_mem, List.forall_mem_cons.mpr ⟨by k_mem, List.forall_mem_cons.mpr ⟨by k_mem, List.forall_mem_cons.mpr ⟨by k_mem, fun p hp => nomatch hp⟩⟩⟩⟩⟩⟩⟩⟩⟩
  have hNd : Nd ((s1.heap.objs.size + 1 + 1 + 1 + 1 + 1, oN) :: MADE #[] #[] [] [] [(s1.heap.objs.size + 1 + 1 + 1 + 1 + 1 + 1, oPow), (s1.heap.objs.size + 1 + 1 + 1 + 1, oP), (s1.heap.objs.size + 1 + 1 + 1, oK), (lK, LCg.lst ys)] lT [.ref l0] 0 [(l0, listOf (List.replicate (M + 1).toNat [Value.int 0 tkz]).flatten.toArray 0)]) := by
    exact nd9 hZ (by k_ne) (by k_ne) (by k_ne) (by k_ne) (by k_ne) (by k_ne) lt0.2.2.1 lt0.2.2.2.2.1 ltT.1
  have hR0 : RowVals [(l0, listOf (List.replicate (M + 1).toNat [Value.int 0 tkz]).flatten.toArray 0)] [.ref l0] (tabRows ks p M.toNat 0) := by
    refine RowVals.cons (.head _) ?_ .nil
    rw [← tabRow_zero ks p hM]
    exact i0
  have hOn : oN.data = .cell none := by assumption
  k_dflt (refine' for_rangeC (MainJ ks p M W lT [(s1.heap.objs.size + 1 + 1 + 1 + 1 + 1 + 1, oPow), (s1.heap.objs.size + 1 + 1 + 1 + 1, oP), (s1.heap.objs.size + 1 + 1 + 1, oK), (lK, LCg.lst ys)]) ?e1 hr hs1 hs2 ?e2 ?e3 ?e4 hOn FA N1 ?e5 ?e6 ?eE ?turn ?done)
  case e1 => exact rfl
  case e2 => exact rfl
  case e3 => exact rfl
  case e4 => exact rfl
  case e5 => exact hNd.head
  case e6 => exact ⟨⟨#[], #[], [], [], [.ref l0], 0, _, rfl, .inl ⟨rfl, rfl⟩, .inl ⟨rfl, rfl⟩, hNd.tail, hR0⟩, _, _, _, mL_self rfl rfl rfl⟩
  case eE => exact (show PassesOwn _ _ _ _ by passes_own)
  case done =>
    rintro sJ m₁ oc vC made ⟨hh1, tkJ, g1, rfl, hb1⟩ hoc ⟨⟨p30, p37, e30, e37, tvs, kt, own, rfl, t30, t37, hNd1, hR⟩, tw, tm, mm, rfl⟩ F1 NJ apc
    unfold mL at F1
    dsimp only [MADE, List.cons_append, List.nil_append] at F1 NJ
    have hw := wOk hk4 hkb hM hWd
    have hw0 := hw.w0
    have hw1 := hw.w1
    have hM4 : M.toNat ≤ 4 := by rcases hM with rfl | rfl <;> decide
    have hRl := hR.length
    rw [show (tabRows ks p M.toNat M.toNat).length = M.toNat + 1 from by simp [tabRows]] at hRl
    have hNdC : Nd ((s1.heap.objs.size + 1 + 1 + 1 + 1 + 1, oc) :: MADE p30 p37 e30 e37 [(s1.heap.objs.size + 1 + 1 + 1 + 1 + 1 + 1, oPow), (s1.heap.objs.size + 1 + 1 + 1 + 1, oP), (s1.heap.objs.size + 1 + 1 + 1, oK), (lK, LCg.lst ys)] lT tvs kt own) :=
      List.Pairwise.cons (fun q hq => Ne.symm (apc q hq)) hNd1
    obtain ⟨REST, hRE⟩ : ∃ REST, REST = (30, tabObj p30) :: (37, tabObj p37) :: (e30 ++ (e37 ++ own)) := ⟨_, rfl⟩
    rw [← hRE] at NJ
    have hOwn : ∀ q ∈ own, q ∈ REST := by
      rw [hRE]
      exact fun q hq => .tail _ (.tail _ (List.mem_append_right _ (List.mem_append_right _ hq)))
    k_steps
    unfold Hold
    rw [eval_ListComp]
    refine wpAny_comprehension_free (g := ⟨_, _, [], 0⟩) (gs := []) rfl (by intro _; rfl) (by with_unfolding_all rfl) (by rfl) (by decide +kernel) ?_
    show wpAny _ _ (eval _ _) _ _ _
    k_steps
    rename News _ _ _ _ => NC
    rename Fr _ _ _ _ => FC
    k_dflt (refine' comp_list (nn := kt) (vs := tvs) (fun i ys2 made => made = ((s1.heap.objs.size + 1 + 1 + 1 + 1 + 1, oc) :: (s1.heap.objs.size + 1 + 1 + 1 + 1 + 1 + 1, oPow) :: (s1.heap.objs.size + 1 + 1 + 1 + 1, oP) :: (s1.heap.objs.size + 1 + 1 + 1, oK) :: (lK, LCg.lst ys) :: (lT, listOf tvs.toArray kt) :: REST) ∧ i ≤ 5 ∧ IntsAre ys2 ((List.range i).map fun q => tabEl ks p q 1)) rfl ?f1 ?f0 ?f2 ?f3 ?f4 ?f5 ?f6 FC NC ?f7 ?cturn ?_)
    case f1 => exact rfl
    case f0 => k_mem
    case f2 =>
      rintro i ys2 made ⟨_, hi, hs⟩
      rw [hs.length, List.length_map, List.length_range]
      exact Nat.le_trans hi (by decide +kernel)
    case f3 => rintro i ys2 made ⟨rfl, _⟩; k_mem
    case f4 => decide +kernel
    case f5 => decide +kernel
    case f6 => exact rfl
    case f7 => exact ⟨rfl, Nat.zero_le _, .nil⟩
    case cturn =>
      rintro I2 C D i v ys2 made sC oI2 oC m₂ hDC hID hnl ⟨hh2, tk2, g2, rfl, hb2⟩ hvi ⟨rfl, hi5, hs⟩ hNs hm F3 N3 apI2 apC apD
      obtain ⟨r, ws, kr, row, rfl, hrow, hrm, hrI⟩ := hR.get hvi
      have hrm2 := hOwn _ hrm
      have hi : i < M.toNat + 1 := by
        have := (List.getElem?_eq_some_iff.mp hvi).1
        omega
      obtain rfl : tabRow ks p M.toNat i = row := by
        unfold tabRows at hrow
        rw [List.getElem?_map, List.getElem?_range hi] at hrow
        exact Option.some.inj hrow
      have hrl := tabRow_len ks p M.toNat i
      dsimp only at F3 N3
      k_steps
      unfold Hold
      have hpl : s1.heap.objs.size + 1 = s1.heap.objs.size + 1 := rfl
      rename News _ _ _ _ => N4
      k_dflt (refine' item_intsE (x := tabEl ks p i 1) ⟨_, (N4 _ (.tail _ (.tail _ (.tail _ (.tail _ (.tail _ (.tail _ (.tail _ (.tail _ (.tail _ hrm2)))))))))).1, rfl, _, rfl⟩ hrI ?g1 ?g2 ?g3 ?g4 ?_)
      case g1 => decide
      case g2 => omega
      case g3 => omega
      case g4 => exact tabRow_get ks p (by omega)
      intro t6
      k_steps
      refine ⟨⟨_, _, _, rfl, id⟩, _, (by k_asm), (by k_asm), apI2, apC, apD, rfl, by omega, ?_⟩
      rw [List.range_succ, List.map_append]
      exact ints_snoc (x := tabEl ks p i 1) hs
    rintro D ysS made sS ⟨hh2, tk2, g2, rfl, hb2⟩ hnl F3 N3 apD ⟨rfl, hi5, hIS⟩
    rw [hRl] at hIS
    have hIS2 : IntsAre ysS (col ks p M.toNat 1) := hIS
    clear hIS
    dsimp only at F3 N3
    subst hRE
    k_steps
    unfold Hold
    rename News _ _ _ _ => N4
    have hcl := col_len ks p M.toNat 1
    have hcb := col_bd hw hM hk4 hp (t := 1)
    have hNdD : Nd (CAN [(D, listOf ysS.toArray ysS.length), (s1.heap.objs.size + 1 + 1 + 1 + 1 + 1, oc), (s1.heap.objs.size + 1 + 1 + 1 + 1 + 1 + 1, oPow), (s1.heap.objs.size + 1 + 1 + 1 + 1, oP), (s1.heap.objs.size + 1 + 1 + 1, oK), (lK, LCg.lst ys), (lT, listOf tvs.toArray kt)] p30 p37 e30 e37 own) := Nd.new hNdC hnl
    k_dflt (refine' d2i_can w _ _ _ _ _ _ _ _ _ _ _ _ _ _ _ _ _ [(s1.heap.objs.size + 1 + 1 + 1 + 1 + 1, oc), (s1.heap.objs.size + 1 + 1 + 1 + 1 + 1 + 1, oPow), (s1.heap.objs.size + 1 + 1 + 1 + 1, oP), (s1.heap.objs.size + 1 + 1 + 1, oK), (lK, LCg.lst ys), (lT, listOf tvs.toArray kt)] p30 p37 e30 e37 own _ D ysS (col ks p M.toNat 1) ysS.length W _ _ _ ?d1 ?d2 ?d3 N4 ?d5 ?d6 C37 t37 hNdD hIS2 ?da ?db hcb ?dc ?dd ?de ?df ?_)
    case d1 => k_asm
    case d2 => k_asm
    case d3 => k_asm
    case d5 => k_asm
    case d6 => exact rfl
    case da => omega
    case db => omega
    case dc => omega
    case dd => omega
    case de => first | omega | ktr_room | decide
    case df => first | omega | ktr_units | decide
    intro q37 f37 h5 t5 tk5 u37 un37 hNd5 F5 N5
    dsimp only [CAN, List.cons_append, List.nil_append] at N5
    k_steps
    unfold Hold
    refine wpAny_For ?_ (by intro _; rfl)
    k_steps
    rename IsRange _ _ _ _ _ _ _ _ => hr4
    rename News _ _ _ _ => N6
    rename Fr _ _ _ _ => F6
    have hOp : oPow.data = .cell none := by assumption
    have hNdP := hNd5.perm (List.perm_middle (l₁ := [(D, listOf ysS.toArray ysS.length), (s1.heap.objs.size + 1 + 1 + 1 + 1 + 1, oc)]))
    have hp1 := fun (n : Nat) (hn : n ≤ 4) => dsum_sz (l := col ks p M.toNat 1) hw1 (by omega) hcb hn
    k_dflt (refine' for_rangeC (fun _ m₁ made => ∃ q30 f30 mm, made = CAN [(D, listOf ysS.toArray ysS.length), (s1.heap.objs.size + 1 + 1 + 1 + 1 + 1, oc), (s1.heap.objs.size + 1 + 1 + 1 + 1, oP), (s1.heap.objs.size + 1 + 1 + 1, oK), (lK, LCg.lst ys), (lT, listOf tvs.toArray kt)] q30 q37 f30 f37 own ∧ TabOk nm30 32 4 q30 f30 ∧ Nd made ∧ m₁ = mE lT W tw M tm (dsum W.toNat (col ks p M.toNat 1)) t5 mm) ?h1 hr4 hs1 hs2 ?h2 ?h3 ?h4 hOp F6 (News.perm N6 (List.perm_middle (l₁ := [(D, listOf ysS.toArray ysS.length), (s1.heap.objs.size + 1 + 1 + 1 + 1 + 1, oc)]))) ?h5 ?h6 ?hE ?hturn ?_)
    case h1 => exact rfl
    case h2 => exact rfl
    case h3 => exact rfl
    case h4 => exact rfl
    case h5 => exact hNdP.head
    case h6 => exact ⟨p30, e30, _, rfl, t30, hNdP.tail, mE_self rfl rfl rfl rfl⟩
    case hE => exact (show PassesOwn _ _ _ _ by passes_own)
    case hturn =>
      rintro j tn m₁ made sK I oI oc2 ⟨hh7, tk7, g7, rfl, hb7⟩ hj ⟨q30, f30, mm2, rfl, u30, hNd7, rfl⟩ hoc2 F7 N7 apI apc2 hIc
      have en : (1 : Int) + (j : Int) = ((j + 1 : Nat) : Int) := by omega
      rw [en] at hoc2
      have hNd8 : Nd ((I, oI) :: (s1.heap.objs.size + 1 + 1 + 1 + 1 + 1 + 1, oc2) :: CAN [(D, listOf ysS.toArray ysS.length), (s1.heap.objs.size + 1 + 1 + 1 + 1 + 1, oc), (s1.heap.objs.size + 1 + 1 + 1 + 1, oP), (s1.heap.objs.size + 1 + 1 + 1, oK), (lK, LCg.lst ys), (lT, listOf tvs.toArray kt)] q30 q37 f30 f37 own) :=
        List.Pairwise.cons (List.forall_mem_cons.mpr ⟨hIc, fun q hq => Ne.symm (apI q hq)⟩) (List.Pairwise.cons (fun q hq => Ne.symm (apc2 q hq)) hNd7)
      unfold mE at F7
      dsimp only [CAN, List.cons_append, List.nil_append] at F7 N7
      have hj0 : (0 : Int) ≤ ((j + 1 : Nat) : Int) := by omega
      have hz1 := hp1 (j + 1) (by omega)
      have hz2 := hz1.2.2.2
      k_steps
      unfold Hold
      rename News _ _ _ _ => N8
      k_dflt (refine' lawdig_can w _ _ _ _ _ _ _ _ _ _ _ _ _ _ _ _ _ [(I, oI), (s1.heap.objs.size + 1 + 1 + 1 + 1 + 1 + 1, oc2), (D, listOf ysS.toArray ysS.length), (s1.heap.objs.size + 1 + 1 + 1 + 1 + 1, oc), (s1.heap.objs.size + 1 + 1 + 1 + 1, oP), (s1.heap.objs.size + 1 + 1 + 1, oK), (lK, LCg.lst ys), (lT, listOf tvs.toArray kt)] q30 q37 f30 f37 own _ _ W _ _ _ _ _ _ ?d1 ?d2 ?d3 N8 ?d5 ?d6 C30 u30 hNd8 ?da hw0 ?db ?dc ?dg ?dd ?de ?df ?_)
      case d1 => k_asm
      case d2 => k_asm
      case d3 => k_asm
      case d5 => k_asm
      case d6 => exact rfl
      case da => exact hz1.1
      case db => omega
      case dc => exact hz1.2.2.1 hw0
      case dg => omega
      case dd => omega
      case de => first | omega | ktr_room | decide
      case df => first | omega | ktr_units | decide
      intro r30 g30 lR wsR kR h9 tk9 v30 vn30 hNd9 hlR F9 N9 hIR
      dsimp only [CAN, List.cons_append, List.nil_append] at N9
      have hNd10 : Nd ((lR, listOf wsR.toArray kR) :: (I, oI) :: (s1.heap.objs.size + 1 + 1 + 1 + 1 + 1 + 1, oc2) :: CAN [(D, listOf ysS.toArray ysS.length), (s1.heap.objs.size + 1 + 1 + 1 + 1 + 1, oc), (s1.heap.objs.size + 1 + 1 + 1 + 1, oP), (s1.heap.objs.size + 1 + 1 + 1, oK), (lK, LCg.lst ys), (lT, listOf tvs.toArray kt)] r30 q37 g30 f37 own) := hNd9
      obtain ⟨RS, hRS⟩ : ∃ RS, RS = (30, tabObj r30) :: (37, tabObj q37) :: (g30 ++ (f37 ++ own)) := ⟨_, rfl⟩
      rw [← hRS] at N9
      have hOwn2 : ∀ q ∈ own, q ∈ RS := by
        rw [hRS]
        exact fun q hq => .tail _ (.tail _ (List.mem_append_right _ (List.mem_append_right _ hq)))
      have hIR2 : IntsAre wsR (digs W.toNat (M.toNat + 1) (dsum W.toNat (col ks p M.toNat 1) ^ (j + 1))) := by
        have e9 : (M + 1).toNat = M.toNat + 1 := by omega
        rw [← e9]; exact hIR
      clear hIR
      have hEq := lawB hw hM hk4 hp (t := j + 1) (by omega) hj
      k_steps
      unfold Hold
      rw [eval_ListComp]
      refine wpAny_comprehension_free (g := ⟨_, _, [], 0⟩) (gs := []) rfl (by intro _; rfl) (by with_unfolding_all rfl) (by rfl) (by decide +kernel) ?_
      show wpAny _ _ (eval _ _) _ _ _
      k_steps
      rename News _ _ _ _ => NC
      rename Fr _ _ _ _ => FC
      k_dflt (refine' comp_list (nn := kt) (vs := tvs) (fun i ys2 made => made = ((lR, listOf wsR.toArray kR) :: (I, oI) :: (s1.heap.objs.size + 1 + 1 + 1 + 1 + 1 + 1, oc2) :: (D, listOf ysS.toArray ysS.length) :: (s1.heap.objs.size + 1 + 1 + 1 + 1 + 1, oc) :: (s1.heap.objs.size + 1 + 1 + 1 + 1, oP) :: (s1.heap.objs.size + 1 + 1 + 1, oK) :: (lK, LCg.lst ys) :: (lT, listOf tvs.toArray kt) :: RS) ∧ i ≤ 5 ∧ IntsAre ys2 ((List.range i).map fun q => tabEl ks p q (j + 1))) rfl ?f1 ?f0 ?f2 ?f3 ?f4 ?f5 ?f6 FC NC ?f7 ?cturn ?_)
      case f1 => exact rfl
      case f0 => k_mem
      case f2 =>
        rintro i ys2 made ⟨_, hi, hs⟩
        rw [hs.length, List.length_map, List.length_range]
        exact Nat.le_trans hi (by decide +kernel)
      case f3 => rintro i ys2 made ⟨rfl, _⟩; k_mem
      case f4 => decide +kernel
      case f5 => decide +kernel
      case f6 => exact rfl
      case f7 => exact ⟨rfl, Nat.zero_le _, .nil⟩
      case cturn =>
        rintro I2 C D2 i v ys2 made sC oI2 oC m₂ hDC hID hnl2 ⟨hh3, tk3, g3, rfl, hb3⟩ hvi ⟨rfl, hi5, hs⟩ hNs hm F10 N10 apI2 apC apD2
        obtain ⟨r, ws, kr, row, rfl, hrow, hrm, hrI⟩ := hR.get hvi
        have hrm2 := hOwn2 _ hrm
        have hi : i < M.toNat + 1 := by
          have := (List.getElem?_eq_some_iff.mp hvi).1
          omega
        obtain rfl : tabRow ks p M.toNat i = row := by
          unfold tabRows at hrow
          rw [List.getElem?_map, List.getElem?_range hi] at hrow
          exact Option.some.inj hrow
        have hrl := tabRow_len ks p M.toNat i
        dsimp only at F10 N10
        k_steps
        unfold Hold
        rename News _ _ _ _ => N11
        k_dflt (refine' item_intsE (x := tabEl ks p i (j + 1)) ⟨_, (N11 _ (.tail _ (.tail _ (.tail _ (.tail _ (.tail _ (.tail _ (.tail _ (.tail _ (.tail _ (.tail _ (.tail _ (.tail _ hrm2))))))))))))).1, rfl, _, rfl⟩ hrI ?g1 ?g2 ?g3 ?g4 ?_)
        case g1 => omega
        case g2 => omega
        case g3 => omega
        case g4 =>
          rw [Int.toNat_natCast]
          exact tabRow_get ks p (by omega)
        intro t6
        k_steps
        refine ⟨⟨_, _, _, rfl, id⟩, _, (by k_asm), (by k_asm), apI2, apC, apD2, rfl, by omega, ?_⟩
        rw [List.range_succ, List.map_append]
        exact ints_snoc (x := tabEl ks p i (j + 1)) hs
      rintro D2 ysC made sC ⟨hh3, tk3, g3, rfl, hb3⟩ hnl2 F10 N10 apD2 ⟨rfl, hi5b, hIC⟩
      rw [hRl] at hIC
      have hIC2 : IntsAre ysC (col ks p M.toNat (j + 1)) := hIC
      clear hIC
      dsimp only at F10 N10
      k_steps
      rename News _ _ _ _ => N13
      subst hRS
      refine ⟨⟨_, _, _, rfl, fun hb => hb3 hb⟩, _, oc2, _, CAN [(D, listOf ysS.toArray ysS.length), (s1.heap.objs.size + 1 + 1 + 1 + 1 + 1, oc), (s1.heap.objs.size + 1 + 1 + 1 + 1, oP), (s1.heap.objs.size + 1 + 1 + 1, oK), (lK, LCg.lst ys), (lT, listOf tvs.toArray kt)] r30 q37 g30 f37 own, hoc2, (by k_asm), News.sub N13 (fun q hq => .tail _ (.tail _ hq)), fun q hq => hNd10.tail.head q (.tail _ hq), hNd10.tail.tail.head, r30, g30, _, rfl, v30, hNd10.tail.tail.tail, mE_self rfl rfl rfl rfl⟩
    rintro sZ m₁ oc3 vC3 made ⟨hh7, tk7, g7, rfl, hb7⟩ hoc3 ⟨q30, f30, mm2, rfl, u30, hNd7, rfl⟩ F7 N7 apc2
    unfold mE at F7
    dsimp only [CAN, List.cons_append, List.nil_append] at F7 N7
    k_steps
    rename News _ _ _ _ => NZ
    rename Fr _ _ _ _ => FZ
    refine ⟨rfl, ?_, fun b o e => FZ.keep b o e, rfl, hb7 (hb2 (hb1 (AllBare.of_eq hg))), ?_, ?_, trivial⟩
    · exact post_ok ns
    · exact GrownAt.of NZ (by k_mem)
    · exact GrownAt.of NZ (by k_mem)
  case turn =>
    rintro j tn m₁ made sJ I oI oc ⟨hh1, tkJ, g1, rfl, hb1⟩ hj ⟨⟨p30, p37, e30, e37, tvs, kt, own, rfl, t30, t37, hNd1, hR⟩, tw, tm, mm, rfl⟩ hoc F1 NJ apI apc hIc
    have en : (1 : Int) + (j : Int) = ((j + 1 : Nat) : Int) := by omega
    rw [en] at hoc
    unfold mL at F1
    dsimp only at F1 NJ
    obtain ⟨REST, hRE⟩ : ∃ REST, REST = (30, tabObj p30) :: (37, tabObj p37) :: (e30 ++ (e37 ++ own)) := ⟨_, rfl⟩
    have NL : News (ghostOf s1.heap [(34, 30), (41, 37)]) s1.heap.objs.size hh1 ((I, oI) :: (s1.heap.objs.size + 1 + 1 + 1 + 1 + 1, oc) :: (s1.heap.objs.size + 1 + 1 + 1 + 1 + 1 + 1, oPow) :: (s1.heap.objs.size + 1 + 1 + 1 + 1, oP) :: (s1.heap.objs.size + 1 + 1 + 1, oK) :: (lK, LCg.lst ys) :: (lT, listOf tvs.toArray kt) :: REST) := by
      rw [hRE]
      exact NJ
    clear NJ
    k_steps
    unfold Hold
    refine assign_comp (by with_unfolding_all rfl) (by intro _; rfl) (by with_unfolding_all rfl) (by rfl) (by decide +kernel) ?_
    k_steps
    rename IsRange _ _ _ _ _ _ _ _ => hr2
    rename News _ _ _ _ => N2
    rename Fr _ _ _ _ => F2
    k_dflt (refine' comp_rangeA (fun i ys2 made => made = ((I, oI) :: (s1.heap.objs.size + 1 + 1 + 1 + 1 + 1, oc) :: (s1.heap.objs.size + 1 + 1 + 1 + 1 + 1 + 1, oPow) :: (s1.heap.objs.size + 1 + 1 + 1 + 1, oP) :: (s1.heap.objs.size + 1 + 1 + 1, oK) :: (lK, LCg.lst ys) :: (lT, listOf tvs.toArray kt) :: REST) ∧ i ≤ 5 ∧ IntsAre ys2 (tabTo ks p (j + 1) i)) ?f1 hr2 hs3 hs4 ?f2 ?f3 ?f4 ?f5 ?f6 ?f7 ?f8 F2 N2 ?f9 ?cturn ?_)
    case f1 => exact rfl
    case f2 =>
      rintro i ys2 made ⟨_, hi, hs⟩
      rw [hs.length]
      unfold tabTo
      rw [List.length_map, List.length_range]
      exact Nat.le_trans hi (by decide +kernel)
    case f3 => decide +kernel
    case f4 => decide +kernel
    case f5 => exact rfl
    case f6 => exact rfl
    case f7 => exact rfl
    case f8 => exact rfl
    case f9 => exact ⟨rfl, Nat.zero_le _, .nil⟩
    case cturn =>
      rintro I2 C D i ti ys2 made sC oI2 oC m₂ hDC hID hnl ⟨hh2, tk2, g2, rfl, hb2⟩ hi ⟨rfl, hi5, hs⟩ hNs hm F3 N3 apI2 apC apD
      rw [Int.zero_add] at hm
      dsimp only at F3 N3
      k_steps
      · rename (0 : Int) < (i : Int) => ha1
        rename (i : Int) ≤ ((j + 1 : Nat) : Int) => ha2
        unfold Hold
        k_dflt (refine' forests_spec w _ _ _ _ _ _ _ _ _ _ _ _ _ _ _ _ _ _ _ _ _ _ _ _ _ _ _ _ _ _ _ ?b1 ?b2 ?b3 ?b4 ?b5 ?b6 ?b7 hKi ?b8 ?b9 ?b10 (piece_ok hp).1 (piece_ok hp).2 hk4 hkb ?b11 ?b12 ?_)
        case b1 => k_asm
        case b2 => k_asm
        case b3 => k_asm
        case b4 => k_asm
        case b5 => k_asm
        case b6 => exact rfl
        case b7 => k_mem
        case b8 => omega
        case b9 => omega
        case b10 => omega
        case b11 => first | omega | ktr_room | decide
        case b12 => first | omega | ktr_units | decide
        rintro t5 sR ⟨hh5, tk5, g5, rfl, hb5⟩ F5 N5
        k_steps
        refine ⟨⟨_, _, _, rfl, fun hb => hb5 hb⟩, _, (by k_asm), (by k_asm), apI2, apC, apD, rfl, by omega, ?_⟩
        have e5 : tabEl ks p (j + 1) i = forestW ks (j + 1) i p := by unfold tabEl; rw [if_pos (by omega)]
        rw [tabTo_snoc, e5]
        exact ints_snoc hs
      · refine ⟨⟨_, _, _, rfl, id⟩, _, (by k_asm), (by k_asm), apI2, apC, apD, rfl, by omega, ?_⟩
        have e5 : tabEl ks p (j + 1) i = 0 := by unfold tabEl; rw [if_neg (by omega)]
        rw [tabTo_snoc, e5]
        exact ints_snoc hs
      · refine ⟨⟨_, _, _, rfl, id⟩, _, (by k_asm), (by k_asm), apI2, apC, apD, rfl, by omega, ?_⟩
        have e5 : tabEl ks p (j + 1) i = 0 := by unfold tabEl; rw [if_neg (by omega)]
        rw [tabTo_snoc, e5]
        exact ints_snoc hs
    rintro DF ysF made sF ⟨hh2, tk2, g2, rfl, hb2⟩ hnl F3 N3 apD ⟨rfl, hi5, hIF⟩
    dsimp only at F3 N3
    k_steps
    unfold Hold
    have hw := wOk hk4 hkb hM hWd
    have hw0 := hw.w0
    have hw1 := hw.w1
    have hjM : j + 1 ≤ M.toNat := hj
    have hM4 : M.toNat ≤ 4 := by rcases hM with rfl | rfl <;> decide
    subst hRE
    have hNdI : Nd ((I, oI) :: (s1.heap.objs.size + 1 + 1 + 1 + 1 + 1, oc) :: MADE p30 p37 e30 e37 [(s1.heap.objs.size + 1 + 1 + 1 + 1 + 1 + 1, oPow), (s1.heap.objs.size + 1 + 1 + 1 + 1, oP), (s1.heap.objs.size + 1 + 1 + 1, oK), (lK, LCg.lst ys)] lT tvs kt own) :=
      List.Pairwise.cons (List.forall_mem_cons.mpr ⟨hIc, fun q hq => Ne.symm (apI q hq)⟩) (List.Pairwise.cons (fun q hq => Ne.symm (apc q hq)) hNd1)
    have hNdF : Nd ((DF, LCg.lst ysF) :: (I, oI) :: (s1.heap.objs.size + 1 + 1 + 1 + 1 + 1, oc) :: MADE p30 p37 e30 e37 [(s1.heap.objs.size + 1 + 1 + 1 + 1 + 1 + 1, oPow), (s1.heap.objs.size + 1 + 1 + 1 + 1, oP), (s1.heap.objs.size + 1 + 1 + 1, oK), (lK, LCg.lst ys)] lT tvs kt own) := Nd.new hNdI hnl
    dsimp only [MADE, List.cons_append, List.nil_append] at hNdF
    have hNdK : Nd (CAN [(lK, listOf ys.toArray ys.length), (DF, LCg.lst ysF), (I, oI), (s1.heap.objs.size + 1 + 1 + 1 + 1 + 1, oc), (s1.heap.objs.size + 1 + 1 + 1 + 1 + 1 + 1, oPow), (s1.heap.objs.size + 1 + 1 + 1 + 1, oP), (s1.heap.objs.size + 1 + 1 + 1, oK), (lT, listOf tvs.toArray kt)] p30 p37 e30 e37 own) := hNdF.perm mvK
    rename News _ _ _ _ => N4
    have hz1 := dsum_sz (l := ks) hw1 (by omega) hw.dig (n := j + 1) (by omega)
    have hj0 : (0 : Int) ≤ ((j + 1 : Nat) : Int) := by omega
    have hz2 := hz1.2.2.2
    k_dflt (refine' d2i_can w _ _ _ _ _ _ _ _ _ _ _ _ _ _ _ _ _ [(DF, LCg.lst ysF), (I, oI), (s1.heap.objs.size + 1 + 1 + 1 + 1 + 1, oc), (s1.heap.objs.size + 1 + 1 + 1 + 1 + 1 + 1, oPow), (s1.heap.objs.size + 1 + 1 + 1 + 1, oP), (s1.heap.objs.size + 1 + 1 + 1, oK), (lT, listOf tvs.toArray kt)] p30 p37 e30 e37 own _ lK ys ks ys.length W _ _ _ ?d1 ?d2 ?d3 (News.perm N4 mvK) ?d5 ?d6 C37 t37 hNdK hKi ?da ?db hw.dig ?dc ?dd ?de ?df ?_)
    case d1 => k_asm
    case d2 => k_asm
    case d3 => k_asm
    case d5 => k_asm
    case d6 => exact rfl
    case da => omega
    case db => omega
    case dc => omega
    case dd => omega
    case de => first | omega | ktr_room | decide
    case df => first | omega | ktr_units | decide
    intro q37 f37 h5 t5 tk5 u37 un37 hNd5 F5 N5
    dsimp only [CAN, List.cons_append, List.nil_append] at N5
    k_steps
    unfold Hold
    rename News _ _ _ _ => N6
    k_dflt (refine' lawdig_can w _ _ _ _ _ _ _ _ _ _ _ _ _ _ _ _ _ [(lK, listOf ys.toArray ys.length), (DF, LCg.lst ysF), (I, oI), (s1.heap.objs.size + 1 + 1 + 1 + 1 + 1, oc), (s1.heap.objs.size + 1 + 1 + 1 + 1 + 1 + 1, oPow), (s1.heap.objs.size + 1 + 1 + 1 + 1, oP), (s1.heap.objs.size + 1 + 1 + 1, oK), (lT, listOf tvs.toArray kt)] p30 q37 e30 f37 own _ _ W _ _ _ _ _ _ ?d1 ?d2 ?d3 N6 ?d5 ?d6 C30 t30 hNd5 ?da hw0 ?db ?dc hj0 ?dd ?de ?df ?_)
    case d1 => k_asm
    case d2 => k_asm
    case d3 => k_asm
    case d5 => k_asm
    case d6 => exact rfl
    case da => exact hz1.1
    case db => omega
    case dc => exact hz1.2.2.1 hw0
    case dd => omega
    case de => first | omega | ktr_room | decide
    case df => first | omega | ktr_units | decide
    intro q30 f30 lR wsR kR h7 tk7 u30 un30 hNd7 hlR F7 N7 hIR
    dsimp only [CAN, List.cons_append, List.nil_append] at N7
    k_steps
    unfold Hold
    have hIR2 : IntsAre wsR (digs W.toNat (j + 1) (dsum W.toNat ks ^ (j + 1))) := hIR
    clear hIR
    refine wpAny_For ?_ (by intro _; rfl)
    k_steps
    rename IsRange _ _ _ _ _ _ _ _ => hr3
    rename News _ _ _ _ => N8
    rename Fr _ _ _ _ => F8
    have hs5 : Builtin.Range.small 1 (((j + 1 : Nat) : Int) + 1) 1 = true := by
      have : j = 0 ∨ j = 1 ∨ j = 2 ∨ j = 3 := by omega
      rcases this with rfl | rfl | rfl | rfl <;> decide
    have hs6 : Builtin.Range.rangeSize 1 (((j + 1 : Nat) : Int) + 1) 1 = ((j + 1 : Nat) : Int) := by
      have : j = 0 ∨ j = 1 ∨ j = 2 ∨ j = 3 := by omega
      rcases this with rfl | rfl | rfl | rfl <;> decide
    k_dflt (refine' for_range (fun _ m₁ made => made = ((lR, listOf wsR.toArray kR) :: (lK, listOf ys.toArray ys.length) :: (DF, LCg.lst ysF) :: (I, oI) :: (s1.heap.objs.size + 1 + 1 + 1 + 1 + 1, oc) :: (s1.heap.objs.size + 1 + 1 + 1 + 1 + 1 + 1, oPow) :: (s1.heap.objs.size + 1 + 1 + 1 + 1, oP) :: (s1.heap.objs.size + 1 + 1 + 1, oK) :: (lT, listOf tvs.toArray kt) :: (30, tabObj q30) :: (37, tabObj q37) :: (f30 ++ (f37 ++ own))) ∧ ∃ mm, m₁ = mI lR DF lT W tw M tm mm) ?g1 hr3 hs5 hs6 ?g2 ?g3 F8 N8 ?g4 ?gE ?gturn ?_)
    case g1 => exact rfl
    case g2 => exact rfl
    case g3 => exact rfl
    case g4 => exact ⟨rfl, _, mI_self rfl rfl rfl rfl rfl⟩
    case gE => exact (show PassesOwn _ _ _ _ by passes_own)
    case gturn =>
      rintro i ti m₁ made sK I3 oI3 ⟨hh3, tk3, g3, rfl, hb3⟩ hi ⟨rfl, mm2, rfl⟩ F9 N9 apI3
      have en2 : (1 : Int) + (i : Int) = ((i + 1 : Nat) : Int) := by omega
      rw [en2] at F9
      unfold mI at F9
      dsimp only at F9 N9
      have hi1 : i + 1 ≤ j + 1 := hi
      have hA := lawA hw hk4 hp (n := j + 1) (k := i + 1) (by omega) hi1 hjM (by omega)
      have hB := forest_bd hw hk4 hp (n := j + 1) (k := i + 1) (by omega) hi1 hjM (by omega)
      obtain ⟨f, hf⟩ : ∃ f, forestW ks (j + 1) ((i + 1 : Nat) : Int) p = f := ⟨_, rfl⟩
      obtain ⟨g, hg⟩ : ∃ g, (digs W.toNat (j + 1) (dsum W.toNat ks ^ (j + 1))).getD (j + 1 - (i + 1)) 0 = g := ⟨_, rfl⟩
      rw [hf] at hA hB
      rw [hg] at hA
      have hgB : 0 ≤ g ∧ g < 2 ^ W.toNat := by
        rw [← hg, digs_pow hw hk4 (by omega) hjM (by omega), take_getD (by omega)]
        exact ⟨(getD_le_sum (nn_ppow (fun y hy => (hw.dig y hy).1) _) _).1, by
          refine Int.lt_of_le_of_lt (getD_le_sum (nn_ppow (fun y hy => (hw.dig y hy).1) _) _).2 ?_
          rw [sum_ppow]
          exact Int.lt_of_le_of_lt (pow_le_pow_int hw.s0 (by omega) hjM) hw.big⟩
      have e64 : (2 : Int) ^ 64 = 18446744073709551616 := by decide
      have hmul : IntMulOk ((i + 1 : Nat) : Int) ((digs W.toNat (j + 1) (dsum W.toNat ks ^ (j + 1))).getD (((j + 1 : Nat) : Int) - ((i + 1 : Nat) : Int)).toNat 0) := IntMulOk.of_left (bits_of_lt (k := 64) (by omega) (by rw [e64]; omega))
      have hFl : (tabTo ks p (j + 1) (M.toNat + 1)).length = M.toNat + 1 := by simp [tabTo]
      have hRl : (digs W.toNat (j + 1) (dsum W.toNat ks ^ (j + 1))).length = j + 1 := digs_length _ _ _
      have hFg : (tabTo ks p (j + 1) (M.toNat + 1)).getD (((i + 1 : Nat) : Int)).toNat 0 = f := by
        rw [Int.toNat_natCast]
        exact (tabRow_get ks p (M := M.toNat) (n := j + 1) (by omega)).trans ((if_pos (by omega)).trans hf)
      have hRg : (digs W.toNat (j + 1) (dsum W.toNat ks ^ (j + 1))).getD (((j + 1 : Nat) : Int) - ((i + 1 : Nat) : Int)).toNat 0 = g := by
        rw [← hg, show (((j + 1 : Nat) : Int) - ((i + 1 : Nat) : Int)).toNat = j + 1 - (i + 1) from by omega]
      k_steps
      · rename (tabTo _ _ _ _).getD _ 0 = 0 => e1
        rename (digs _ _ _).getD _ 0 ≠ 0 => e2
        rw [hFg] at e1
        rw [hRg] at e2
        rw [e1, Int.mul_zero] at hA
        rcases Int.mul_eq_zero.mp hA with h | h
        · omega
        · exact absurd h e2
      · refine ⟨⟨_, _, _, rfl, id⟩, _, _, (by k_asm), (by k_asm), apI3, rfl, _, mI_self rfl rfl rfl rfl rfl⟩
      · rename ¬ (tabTo _ _ _ _).getD _ 0 = 0 => e1
        rw [hFg] at e1
        unfold Hold
        rename News _ _ _ _ => N10
        have hN10 : Nd (CAN [(I3, oI3), (lR, listOf wsR.toArray kR), (lK, listOf ys.toArray ys.length), (DF, LCg.lst ysF), (I, oI), (s1.heap.objs.size + 1 + 1 + 1 + 1 + 1, oc), (s1.heap.objs.size + 1 + 1 + 1 + 1 + 1 + 1, oPow), (s1.heap.objs.size + 1 + 1 + 1 + 1, oP), (s1.heap.objs.size + 1 + 1 + 1, oK), (lT, listOf tvs.toArray kt)] q30 q37 f30 f37 own) := List.Pairwise.cons (fun q hq => Ne.symm (apI3 q hq)) hNd7
        k_dflt (refine' divmod_can w _ _ _ _ _ _ _ _ _ _ _ _ _ _ _ _ _ [(I3, oI3), (lR, listOf wsR.toArray kR), (lK, listOf ys.toArray ys.length), (DF, LCg.lst ysF), (I, oI), (s1.heap.objs.size + 1 + 1 + 1 + 1 + 1, oc), (s1.heap.objs.size + 1 + 1 + 1 + 1 + 1 + 1, oPow), (s1.heap.objs.size + 1 + 1 + 1 + 1, oP), (s1.heap.objs.size + 1 + 1 + 1, oK), (lT, listOf tvs.toArray kt)] q30 q37 f30 f37 own _ _ _ ((j + 1 : Nat) : Int) _ _ _ _ ?d1 ?d2 ?d3 N10 ?d5 ?d6 C30 C37 u30 un30 u37 un37 hN10 ?da ?db ?dc ?dd ?de ?dg ?df ?dh ?_)
        case d1 => k_asm
        case d2 => k_asm
        case d3 => k_asm
        case d5 => k_asm
        case d6 => exact rfl
        case da => exact fun h => nomatch h
        case db => rw [hRg, hFg]; exact hA
        case dc => omega
        case dd => omega
        case de => rw [hFg]; omega
        case dg => rw [hFg]; exact Int.lt_of_lt_of_le hB.2.2 (pow_mono (by omega))
        case df => first | omega | ktr_room | decide
        case dh => first | omega | ktr_units | decide
        intro lD tD tD2 h11 tk11 F11 N11 hlD
        dsimp only [CAN, List.cons_append, List.nil_append] at N11
        k_steps
        rename News _ _ _ _ => N12
        refine ⟨⟨_, _, _, rfl, id⟩, _, _, (by k_asm), News.sub N12 (fun q hq => .tail _ (.tail _ hq)), apI3, rfl, _, mI_self rfl rfl rfl rfl rfl⟩
    rintro sL m₁ made ⟨hh3, tk3, g3, rfl, hb3⟩ ⟨rfl, mm2, rfl⟩ F9 N9
    unfold mI at F9
    dsimp only at F9 N9
    k_steps
    rename News _ _ _ _ => N13
    rename Fr _ _ _ _ => F13
    have hNd13 := hNd7.perm mvT
    have htl : tvs.toArray.size ≤ sizeLine := by
      have := hR.length
      rw [show (tabRows ks p M.toNat j).length = j + 1 from by simp [tabRows]] at this
      rw [List.size_toArray, this]
      exact Nat.le_trans (by omega : j + 1 ≤ 4) (by decide +kernel)
    k_dflt (refine' append_head (hsz := htl) F13 (News.perm N13 mvT) hNd13.head ?_)
    intro h14 F14 N14
    have hpush : ({ cls := .type "list", data := .seq (tvs.toArray.push (Value.ref DF)) (kt + 1) } : Obj) = listOf (tvs ++ [Value.ref DF]).toArray (kt + 1) := by rw [List.push_toArray]
    rw [hpush] at N14
    have hNd14 : Nd ((lR, listOf wsR.toArray kR) :: (I, oI) :: (s1.heap.objs.size + 1 + 1 + 1 + 1 + 1, oc) :: MADE q30 q37 f30 f37 [(s1.heap.objs.size + 1 + 1 + 1 + 1 + 1 + 1, oPow), (s1.heap.objs.size + 1 + 1 + 1 + 1, oP), (s1.heap.objs.size + 1 + 1 + 1, oK), (lK, LCg.lst ys)] lT (tvs ++ [Value.ref DF]) (kt + 1) ((DF, LCg.lst ysF) :: own)) := (Nd.swap (b := (lT, listOf (tvs ++ [Value.ref DF]).toArray (kt + 1))) hNd13 rfl).perm mvEnd
    have N15 : News (ghostOf s1.heap [(34, 30), (41, 37)]) s1.heap.objs.size h14 ((lR, listOf wsR.toArray kR) :: (I, oI) :: (s1.heap.objs.size + 1 + 1 + 1 + 1 + 1, oc) :: MADE q30 q37 f30 f37 [(s1.heap.objs.size + 1 + 1 + 1 + 1 + 1 + 1, oPow), (s1.heap.objs.size + 1 + 1 + 1 + 1, oP), (s1.heap.objs.size + 1 + 1 + 1, oK), (lK, LCg.lst ys)] lT (tvs ++ [Value.ref DF]) (kt + 1) ((DF, LCg.lst ysF) :: own)) := News.perm N14 mvEnd
    k_steps
    refine ⟨⟨_, _, _, rfl, fun hb => hb3 (hb2 hb)⟩, _, oc, _, MADE q30 q37 f30 f37 [(s1.heap.objs.size + 1 + 1 + 1 + 1 + 1 + 1, oPow), (s1.heap.objs.size + 1 + 1 + 1 + 1, oP), (s1.heap.objs.size + 1 + 1 + 1, oK), (lK, LCg.lst ys)] lT (tvs ++ [Value.ref DF]) (kt + 1) ((DF, LCg.lst ysF) :: own), hoc, (by k_asm), News.sub N15 (fun q hq => .tail _ hq), fun q hq => hNd14.tail.head q (.tail _ hq), hNd14.tail.tail.head, ⟨q30, q37, f30, f37, _, _, _, rfl, u30, u37, hNd14.tail.tail.tail, ?_⟩, _, _, _, mL_self rfl rfl rfl⟩
    rw [tabRows_snoc]
    exact (hR.mono fun q hq => .tail _ hq).snoc (.head _) hIF)
end Mine
end
end
theorem PySem.Challenge.cw_ph0116_01_holds : PySem.Challenge.rw_ph0116_01.Holds := by
  exact Mine.law_holds
