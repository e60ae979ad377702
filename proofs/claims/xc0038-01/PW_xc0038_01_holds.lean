import PyProof.Rows.All
import Wide.All
import OpenK.AllK
import Wide.FinOn
import Flt.RightMore
import PySem.Challenge.RW_xc0038_01
set_option Elab.async false
set_option linter.unusedVariables false
section
namespace Mine
theorem ite_no {c : Prop} [Decidable c] {P Q : Prop} (h : ¬ c) (q : Q) : if c then P else Q := by rw [if_neg h]; exact q
theorem ite_yes {c : Prop} [Decidable c] {P Q : Prop} (h : c) (q : P) : if c then P else Q := by rw [if_pos h]; exact q
end Mine
end
section
open PySem
namespace Mine
theorem sum_rep (a m : Int) (h : 0 ≤ m) : (List.replicate m.toNat [a]).flatten.sum = a * m := by
  have e : ∀ k : Nat, (List.replicate k [a]).flatten.sum = a * (k : Int) := by
    intro k
    induction k with
    | zero => simp
    | succ k ih => simp only [List.replicate_succ, List.flatten_cons, List.sum_append, ih, List.sum_cons, List.sum_nil]; rw [Int.natCast_add, Int.mul_add]; omega
  rw [e, Int.toNat_of_nonneg h]
theorem and_xor (n : Nat) : ∀ a b : Nat, a + b ≤ n → (a ^^^ b) + 2 * (a &&& b) = a + b ∧ (a ||| b) + (a &&& b) = a + b := by
  induction n using Nat.strongRecOn with
  | ind n ih =>
    intro a b hab
    by_cases h : a + b = 0
    · have ha : a = 0 := by omega
      have hb : b = 0 := by omega
      subst ha hb
      simp
    · have h2 := ih (a / 2 + b / 2) (by omega) (a / 2) (b / 2) (Nat.le_refl _)
      have x1 : (a ^^^ b) / 2 = a / 2 ^^^ b / 2 := Nat.xor_div_two
      have x2 : (a &&& b) / 2 = a / 2 &&& b / 2 := Nat.and_div_two
      have x3 : (a ||| b) / 2 = a / 2 ||| b / 2 := Nat.or_div_two
      have y1 : (a ^^^ b) % 2 = (a % 2 + b % 2) % 2 := by
        have := @Nat.xor_mod_two_pow a b 1
        simp only [Nat.pow_one] at this
        rw [this]
        rcases Nat.mod_two_eq_zero_or_one a with p | p <;> rcases Nat.mod_two_eq_zero_or_one b with q | q <;> simp [p, q]
      have y2 : (a &&& b) % 2 = (a % 2) * (b % 2) := by
        have := @Nat.and_mod_two_pow a b 1
        simp only [Nat.pow_one] at this
        rw [this]
        rcases Nat.mod_two_eq_zero_or_one a with p | p <;> rcases Nat.mod_two_eq_zero_or_one b with q | q <;> simp [p, q]
      have y3 : (a ||| b) % 2 = a % 2 + b % 2 - (a % 2) * (b % 2) := by
        have := @Nat.or_mod_two_pow a b 1
        simp only [Nat.pow_one] at this
        rw [this]
        rcases Nat.mod_two_eq_zero_or_one a with p | p <;> rcases Nat.mod_two_eq_zero_or_one b with q | q <;> simp [p, q]
      rcases Nat.mod_two_eq_zero_or_one a with p | p <;> rcases Nat.mod_two_eq_zero_or_one b with q | q <;> simp only [p, q] at y1 y2 y3 <;> omega
theorem xor_eq (a b : Nat) : ((a ^^^ b : Nat) : Int) = a + b - 2 * ((a &&& b : Nat) : Int) := by
  have := (and_xor _ a b (Nat.le_refl _)).1; omega
theorem or_eq (a b : Nat) : ((a ||| b : Nat) : Int) = a + b - ((a &&& b : Nat) : Int) := by
  have := (and_xor _ a b (Nat.le_refl _)).2; omega
end Mine
namespace Mine
theorem pow_step {p one : Int} {pre : List Int} {k : Int} (h : p = one ^ pre.length) : p * one = one ^ (pre ++ [k]).length := by
  rw [List.length_append, List.length_singleton, Int.pow_succ, h]
end Mine
namespace Mine
theorem pow_done {p one n : Int} (h : p = one ^ (PySem.W.rangeKs 0 (n - 0).toNat).length) : ¬ (one ^ n.toNat != p) = true := by
  rw [PySem.W.rangeKs_length, Int.sub_zero] at h
  simp [h]
theorem divmod_back {a b : Int} : a.fdiv b * b + a.fmod b = a := Int.fdiv_mul_add_fmod a b
end Mine
namespace Mine
theorem rest_lo {a n : Int} (h : 0 ≤ n) : decide (0 ≤ a.fmod (n + 1)) = true := decide_eq_true (PySem.W.fmod_lo a (by omega))
theorem rest_hi {a n : Int} (h : 0 ≤ n) : ¬ (!decide (a.fmod (n + 1) ≤ n)) = true := by
  have := PySem.W.fmod_hi a (n := n + 1) (by omega)
  rw [decide_eq_true (by omega : a.fmod (n + 1) ≤ n)]
  decide
theorem quot_no {a n : Int} : ¬ (a.fdiv (n + 1) * (n + 1) + a.fmod (n + 1) != a) = true := by rw [divmod_back]; simp
theorem bne_self {a : Int} : ¬ (a != a) = true := by simp
theorem shr_no {a : Int} {k : Nat} : ¬ (a.fdiv (2 ^ k) != a.fdiv (1 * 2 ^ k)) = true := by rw [Int.one_mul]; simp
end Mine
namespace Mine
theorem fdiv_nat (x : Nat) (k : Nat) : (x : Int).fdiv (2 ^ k) = ((x / 2 ^ k : Nat) : Int) := by
  have e : ((2 : Int) ^ k) = ((2 ^ k : Nat) : Int) := by rw [Int.natCast_pow]; rfl
  rw [e, Int.fdiv_eq_ediv_of_nonneg _ (Int.natCast_nonneg _)]
  rfl
theorem bit_val {x : Int} (hx : 0 ≤ x) (k : Nat) : Builtin.bitAnd (x.fdiv (2 ^ k)) 1 = ((x.toNat.testBit k).toNat : Int) := by
  obtain ⟨n, rfl⟩ := Int.eq_ofNat_of_zero_le hx
  rw [PyProof.Rows.bitAnd_m1, fdiv_nat, Int.toNat_natCast, Nat.toNat_testBit]
  omega
theorem bit_range (x : Int) : 0 ≤ Builtin.bitAnd x 1 ∧ Builtin.bitAnd x 1 ≤ 1 := PyProof.Rows.bitAnd_range x (by decide)
theorem min_range (x y : Int) : 0 ≤ (if Builtin.bitAnd y 1 < Builtin.bitAnd x 1 then Builtin.bitAnd y 1 else Builtin.bitAnd x 1) ∧ (if Builtin.bitAnd y 1 < Builtin.bitAnd x 1 then Builtin.bitAnd y 1 else Builtin.bitAnd x 1) ≤ 1 := by
  split
  · exact bit_range y
  · exact bit_range x
theorem step_of (z n : Nat) (found v kN : Int) (pre : List Int) (hn : pre.length = n) (hk : kN = 0 + (pre.length : Int)) (hf : found = ((z % 2 ^ n : Nat) : Int)) (hv : v = ((z.testBit n).toNat : Int)) :
    found + v * 2 ^ kN.toNat = ((z % 2 ^ (pre ++ [kN]).length : Nat) : Int) := by
  have e : kN.toNat = n := by omega
  have e2 : (pre ++ [kN]).length = n + 1 := by rw [List.length_append, List.length_singleton, hn]
  rw [e, e2, Nat.mod_pow_succ, ← Nat.toNat_testBit, hf, hv, Int.natCast_add, Int.natCast_mul, Int.mul_comm, Int.natCast_pow]
  rfl
theorem and_step {x y found kN : Int} {pre : List Int} (hx : 0 ≤ x) (hy : 0 ≤ y) (hk : kN = 0 + (pre.length : Int)) (hf : found = (((x.toNat &&& y.toNat) % 2 ^ pre.length : Nat) : Int)) :
    found + (if Builtin.bitAnd (y.fdiv (2 ^ kN.toNat)) 1 < Builtin.bitAnd (x.fdiv (2 ^ kN.toNat)) 1 then Builtin.bitAnd (y.fdiv (2 ^ kN.toNat)) 1 else Builtin.bitAnd (x.fdiv (2 ^ kN.toNat)) 1) * 2 ^ kN.toNat = (((x.toNat &&& y.toNat) % 2 ^ (pre ++ [kN]).length : Nat) : Int) := by
  refine step_of _ pre.length found _ kN pre rfl hk hf ?_
  have e : kN.toNat = pre.length := by omega
  rw [e, bit_val hx, bit_val hy, Nat.testBit_and]
  cases x.toNat.testBit pre.length <;> cases y.toNat.testBit pre.length <;> decide
theorem and_start {x y : Int} : (0 : Int) = (((x.toNat &&& y.toNat) % 2 ^ ([] : List Int).length : Nat) : Int) := by
  rw [List.length_nil, Nat.pow_zero, Nat.mod_one]; rfl
theorem and_done {x y found : Int} (hx : 0 ≤ x) (hy : 0 ≤ y) (h2 : x < 18446744073709551616) (hf : found = (((x.toNat &&& y.toNat) % 2 ^ (PySem.W.rangeKs 0 64).length : Nat) : Int)) :
    Builtin.bitAnd x y = found := by
  rw [PySem.W.rangeKs_length] at hf
  obtain ⟨n, rfl⟩ := Int.eq_ofNat_of_zero_le hx
  obtain ⟨m, rfl⟩ := Int.eq_ofNat_of_zero_le hy
  have hn : n < 2 ^ 64 := by omega
  rw [hf, Nat.mod_eq_of_lt (Nat.lt_of_le_of_lt Nat.and_le_left (by simpa using hn))]
  simp only [Builtin.bitAnd, hx, hy, decide_true]
theorem or_step {x y found kN v : Int} {pre : List Int} (hx : 0 ≤ x) (hy : 0 ≤ y) (hk : kN = 0 + (pre.length : Int)) (hf : found = (((x.toNat ||| y.toNat) % 2 ^ pre.length : Nat) : Int))
    (hv : v = if Builtin.bitAnd (x.fdiv (2 ^ kN.toNat)) 1 < Builtin.bitAnd (y.fdiv (2 ^ kN.toNat)) 1 then Builtin.bitAnd (y.fdiv (2 ^ kN.toNat)) 1 else Builtin.bitAnd (x.fdiv (2 ^ kN.toNat)) 1) :
    found + v * 2 ^ kN.toNat = (((x.toNat ||| y.toNat) % 2 ^ (pre ++ [kN]).length : Nat) : Int) := by
  refine step_of _ pre.length found _ kN pre rfl hk hf ?_
  have e : kN.toNat = pre.length := by omega
  rw [hv, e, bit_val hx, bit_val hy, Nat.testBit_or]
  cases x.toNat.testBit pre.length <;> cases y.toNat.testBit pre.length <;> decide
theorem xor_step {x y found kN : Int} {pre : List Int} (hx : 0 ≤ x) (hy : 0 ≤ y) (hk : kN = 0 + (pre.length : Int)) (hf : found = (((x.toNat ^^^ y.toNat) % 2 ^ pre.length : Nat) : Int)) :
    found + (Builtin.bitAnd (x.fdiv (2 ^ kN.toNat)) 1 + Builtin.bitAnd (y.fdiv (2 ^ kN.toNat)) 1).fmod 2 * 2 ^ kN.toNat = (((x.toNat ^^^ y.toNat) % 2 ^ (pre ++ [kN]).length : Nat) : Int) := by
  refine step_of _ pre.length found _ kN pre rfl hk hf ?_
  have e : kN.toNat = pre.length := by omega
  rw [e, bit_val hx, bit_val hy, Nat.testBit_xor]
  cases x.toNat.testBit pre.length <;> cases y.toNat.testBit pre.length <;> decide
theorem and_no {x y found : Int} (hx : 0 ≤ x) (hy : 0 ≤ y) (h2 : x < 18446744073709551616) (hf : found = (((x.toNat &&& y.toNat) % 2 ^ (PySem.W.rangeKs 0 64).length : Nat) : Int)) :
    ¬ (Builtin.bitAnd x y != found) = true := by rw [and_done hx hy h2 hf]; simp
theorem bitAnd_nat (n m : Nat) : Builtin.bitAnd (n : Int) (m : Int) = ((n &&& m : Nat) : Int) := by
  simp only [Builtin.bitAnd, Int.natCast_nonneg, decide_true, Int.toNat_natCast]
theorem bitOr_nat (n m : Nat) : Builtin.bitOr (n : Int) (m : Int) = ((n ||| m : Nat) : Int) := by
  rw [PyProof.Rows.bitOr_and, bitAnd_nat, or_eq]
theorem bitXor_nat (n m : Nat) : Builtin.bitXor (n : Int) (m : Int) = ((n ^^^ m : Nat) : Int) := by
  rw [PyProof.Rows.bitXor_and, bitAnd_nat, xor_eq]
theorem or_no {x y found : Int} (hx : 0 ≤ x) (hy : 0 ≤ y) (h2 : x < 18446744073709551616) (h3 : y < 18446744073709551616) (hf : found = (((x.toNat ||| y.toNat) % 2 ^ (PySem.W.rangeKs 0 64).length : Nat) : Int)) :
    ¬ (Builtin.bitOr x y != found) = true := by
  rw [PySem.W.rangeKs_length] at hf
  obtain ⟨n, rfl⟩ := Int.eq_ofNat_of_zero_le hx
  obtain ⟨m, rfl⟩ := Int.eq_ofNat_of_zero_le hy
  have hn : n < 2 ^ 64 := by omega
  have hm : m < 2 ^ 64 := by omega
  simp only [Int.toNat_natCast] at hf
  rw [hf, Nat.mod_eq_of_lt (Nat.or_lt_two_pow hn hm), bitOr_nat]
  simp
theorem xor_no {x y found : Int} (hx : 0 ≤ x) (hy : 0 ≤ y) (h2 : x < 18446744073709551616) (h3 : y < 18446744073709551616) (hf : found = (((x.toNat ^^^ y.toNat) % 2 ^ (PySem.W.rangeKs 0 64).length : Nat) : Int)) :
    ¬ (Builtin.bitXor x y != found) = true := by
  rw [PySem.W.rangeKs_length] at hf
  obtain ⟨n, rfl⟩ := Int.eq_ofNat_of_zero_le hx
  obtain ⟨m, rfl⟩ := Int.eq_ofNat_of_zero_le hy
  have hn : n < 2 ^ 64 := by omega
  have hm : m < 2 ^ 64 := by omega
  simp only [Int.toNat_natCast] at hf
  rw [hf, Nat.mod_eq_of_lt (Nat.xor_lt_two_pow hn hm), bitXor_nat]
  simp
theorem or_start {x y : Int} : (0 : Int) = (((x.toNat ||| y.toNat) % 2 ^ ([] : List Int).length : Nat) : Int) := by
  rw [List.length_nil, Nat.pow_zero, Nat.mod_one]; rfl
theorem xor_start {x y : Int} : (0 : Int) = (((x.toNat ^^^ y.toNat) % 2 ^ ([] : List Int).length : Nat) : Int) := by
  rw [List.length_nil, Nat.pow_zero, Nat.mod_one]; rfl
theorem max_range (x y : Int) : 0 ≤ (if Builtin.bitAnd x 1 < Builtin.bitAnd y 1 then Builtin.bitAnd y 1 else Builtin.bitAnd x 1) ∧ (if Builtin.bitAnd x 1 < Builtin.bitAnd y 1 then Builtin.bitAnd y 1 else Builtin.bitAnd x 1) ≤ 1 := by
  split
  · exact bit_range y
  · exact bit_range x
theorem par_range (a : Int) : 0 ≤ a.fmod 2 ∧ a.fmod 2 ≤ 1 := ⟨PySem.W.fmod_lo a (by decide), by have := PySem.W.fmod_hi a (n := 2) (by decide); omega⟩
/-! xor there and back, signs and all -/
def enc (s : Bool) (m : Nat) : Int := if s then -(m : Int) - 1 else m
theorem enc_of (x : Int) : ∃ s m, x = enc s m := by
  by_cases h : x < 0
  · exact ⟨true, (-x - 1).toNat, by unfold enc; rw [if_pos rfl]; omega⟩
  · exact ⟨false, x.toNat, by unfold enc; rw [if_neg (by decide)]; omega⟩
theorem dec_nn (m : Nat) : decide ((0 : Int) ≤ (m : Int)) = true := decide_eq_true (Int.natCast_nonneg _)
theorem dec_neg (m : Nat) : decide ((0 : Int) ≤ -(m : Int) - 1) = false := decide_eq_false (by omega)
theorem not_neg (m : Nat) : Builtin.bitNot (-(m : Int) - 1) = m := by unfold Builtin.bitNot; omega
theorem bitAnd_pn (m n : Nat) : Builtin.bitAnd (m : Int) (-(n : Int) - 1) = m - ((m &&& n : Nat) : Int) := by
  simp only [Builtin.bitAnd, dec_nn, dec_neg, not_neg, Int.toNat_natCast]
theorem bitAnd_np (m n : Nat) : Builtin.bitAnd (-(m : Int) - 1) (n : Int) = n - ((n &&& m : Nat) : Int) := by
  simp only [Builtin.bitAnd, dec_nn, dec_neg, not_neg, Int.toNat_natCast]
theorem bitAnd_nn (m n : Nat) : Builtin.bitAnd (-(m : Int) - 1) (-(n : Int) - 1) = -((m ||| n : Nat) : Int) - 1 := by
  simp only [Builtin.bitAnd, dec_neg, not_neg, Int.toNat_natCast]
  rfl
theorem bitXor_enc (s t : Bool) (m n : Nat) : Builtin.bitXor (enc s m) (enc t n) = enc (s != t) (m ^^^ n) := by
  have hx := xor_eq m n
  have ho := or_eq m n
  rw [PyProof.Rows.bitXor_and]
  cases s <;> cases t <;> simp only [enc, if_true, Bool.false_eq_true, if_false, bitAnd_nat, bitAnd_pn, bitAnd_np, bitAnd_nn, Bool.bne_false, Bool.bne_true, Bool.not_false, Bool.not_true, bne_self_eq_false]
  · omega
  · omega
  · rw [Nat.and_comm n m]; omega
  · omega
theorem xor_back (x y : Int) : Builtin.bitXor (Builtin.bitXor x y) y = x := by
  obtain ⟨s, m, rfl⟩ := enc_of x
  obtain ⟨t, n, rfl⟩ := enc_of y
  rw [bitXor_enc, bitXor_enc, Nat.xor_assoc, Nat.xor_self, Nat.xor_zero]
  cases s <;> cases t <;> rfl
theorem xor_back_no {x y : Int} : ¬ (Builtin.bitXor (Builtin.bitXor x y) y != x) = true := by rw [xor_back]; simp
end Mine
namespace Mine
theorem le_is {x y : Int} : ¬ (decide (x ≤ y) == decide (y < x)) = true := by
  by_cases h : x ≤ y
  · rw [decide_eq_true h, decide_eq_false (show ¬ y < x by omega)]; decide
  · rw [decide_eq_false h, decide_eq_true (show y < x by omega)]; decide
theorem ne_is {x y : Int} : ¬ ((x != y) == (x == y)) = true := by
  by_cases h : x = y
  · subst h; simp
  · rw [bne_iff_ne.mpr h, beq_false_of_ne h]; decide
theorem lt_is {x y : Int} : ¬ (!(decide (x < y) == decide (x - y < 0))) = true := by
  by_cases h : x < y
  · rw [decide_eq_true h, decide_eq_true (show x - y < 0 by omega)]; decide
  · rw [decide_eq_false h, decide_eq_false (show ¬ x - y < 0 by omega)]; decide
end Mine
namespace Mine
theorem is_not_no {b : Bool} : ¬ (b == !b) = true := by cases b <;> decide
theorem isnt_no {b : Bool} : ¬ (b != b) = true := by cases b <;> decide
end Mine
namespace Mine
theorem rows_no {ns : List Int} {a b : Int} : ¬ (!decide (ns ++ [a] ++ [b] = ns ++ [a, b])) = true := by simp
theorem rows2_no {ns : List Int} {a b : Int} : ¬ (!decide (ns ++ [a] ++ [b] ++ (ns ++ [a] ++ [b]) = ns ++ [a, b] ++ ns ++ [a, b])) = true := by simp
end Mine
end
section
open PySem PySem.W PySem.Calls PyProof.Rows PyProof.V PySem.Spec
namespace Mine
section
variable {prog : Program} {w : World} {A : Around} {E : Value → Shared → Prop} {s : Shared}
theorem item_any {value slice : PySem.Expr} {l : Addr} {vs : List Value} {ns : List Int} {k : Int} {u : Tok} {Q : Value → Shared → Prop} (hl : s.heap.IsList l vs.toArray) (hi : IntsAre vs ns)
    (h0 : -1 ≤ k) (hp : 0 < (ns.length : Int)) (h1 : k < ns.length) (hfit : k < 2 ^ 63) (h : ∀ (n : Int) t, Q (.int n t) s)
    (hs : subscripted slice false (.ref l) (.int k u) = operate [.ref l, .int k u] (getItem (.ref l) (.int k u)) := by with_unfolding_all rfl) :
    wpAny (model prog w) A (subscriptTail value slice (.ref l) (.int k u)) Q E s := by
  refine tail_any hl.typeIs slot_list_getitem.lookup ?_ hs
  by_cases hk : 0 ≤ k
  · exact getItem_intsK hl hi hk h1 hfit (h _)
  · have hk : k < 0 := by omega
    have e : vs.length = ns.length := hi.length
    have h2 : 0 ≤ k + ns.length := by omega
    have h3 : k + ns.length < ns.length := by omega
    obtain ⟨t, hx⟩ := hi.get (k + ns.length).toNat _ (ints_getD h2 h3)
    refine wpAny_getItem_list_neg hl hk (by simp only [List.size_toArray]; omega) (by omega) (x := .int (ns.getD (k + ns.length).toNat 0) t) ?_ (h _ t)
    simp only [List.size_toArray, e]
    simpa using hx
theorem pow40 {t u : Tok} {Q : Value → Shared → Prop} (h : Q (.int (10 ^ 40) s.toks) { s with toks := s.toks + 1 }) : wpAny (model prog w) A (binaryOp .Pow (.int 10 t) (.int 40 u)) Q E s :=
  PyProof.Rows.pow_int (by decide) (by decide +kernel) h
theorem pow39 {t u : Tok} {Q : Value → Shared → Prop} (h : Q (.int (10 ^ 39) s.toks) { s with toks := s.toks + 1 }) : wpAny (model prog w) A (binaryOp .Pow (.int 10 t) (.int 39 u)) Q E s :=
  PyProof.Rows.pow_int (by decide) (by decide +kernel) h
theorem mul39 {t u : Tok} {Q : Value → Shared → Prop} (h : Q (.int (5 * 10 ^ 39) s.toks) { s with toks := s.toks + 1 }) : wpAny (model prog w) A (binaryOp .Mult (.int 5 t) (.int (10 ^ 39) u)) Q E s :=
  PyProof.Rows.mul_int h
theorem mod40 {a : Int} {t u : Tok} {Q : Value → Shared → Prop} (h : Q (.int (Int.fmod a (10 ^ 40)) s.toks) { s with toks := s.toks + 1 }) : wpAny (model prog w) A (binaryOp .Mod (.int a t) (.int (10 ^ 40) u)) Q E s :=
  PyProof.Rows.mod_int (by decide) h
theorem sub_bound {a : Int} {t u : Tok} {Q : Value → Shared → Prop} 
    (h : ∀ (n : Int) (t : Tok), -5000000000000000000000000000000000000000 ≤ n → n < 5000000000000000000000000000000000000000 → Q (.int n t) { s with toks := s.toks + 1 }) :
    wpAny (model prog w) A (binaryOp .Sub (.int (Int.fmod a (10 ^ 40)) t) (.int (5 * 10 ^ 39) u)) Q E s := by
  refine PyProof.Rows.sub_int (h _ _ ?_ ?_)
  · have := fmod_lo a (n := 10 ^ 40) (by decide); omega
  · have := fmod_hi a (n := 10 ^ 40) (by decide); omega
theorem bits_one {a : Int} (h1 : -5000000000000000000000000000000000000000 ≤ a) (h2 : a < 5000000000000000000000000000000000000000) : Builtin.Int.intBits a ≤ 133 := by
  refine intBits_le_iff.mpr ?_
  omega
theorem mul_pow {a b : Int} {n : Nat} {t u : Tok} {Q : Value → Shared → Prop} (h1 : -5000000000000000000000000000000000000000 ≤ b) (h2 : b < 5000000000000000000000000000000000000000) (e : a = b ^ n) (hn : (n : Int) ≤ 8)
    (h : Q (.int (a * b) s.toks) { s with toks := s.toks + 1 }) : wpAny (model prog w) A (binaryOp .Mult (.int a t) (.int b u)) Q E s := by
  refine PyProof.Rows.mul_int h ?_
  subst e
  have hb := bits_one h1 h2
  have hp := intBits_pow_le hb n
  exact IntMulOk.of_le hp hb (by omega)
theorem mod9 {a : Int} {t u : Tok} {Q : Value → Shared → Prop} (h : ∀ (n : Int) (t : Tok), 0 ≤ n → n ≤ 8 → Q (.int n t) { s with toks := s.toks + 1 }) : wpAny (model prog w) A (binaryOp .Mod (.int a t) (.int 9 u)) Q E s :=
  PyProof.Rows.mod_int (by decide) (h _ _ (fmod_lo a (by decide)) (by have := fmod_hi a (n := 9) (by decide); omega))
end
end Mine
end
section
open PySem PySem.W PySem.Calls PyProof.Rows PyProof.V PySem.Spec
namespace Mine
section
variable {prog : Program} {w : World} {A : Around} {E : Value → Shared → Prop} {s : Shared}
theorem ipow_one {a n : Int} {t u : Tok} {Q : Value → Shared → Prop} (h1 : -5000000000000000000000000000000000000000 ≤ a) (h2 : a < 5000000000000000000000000000000000000000) (h0 : 0 ≤ n) (hn : n ≤ 8)
    (h : Q (.int (a ^ n.toNat) s.toks) { s with toks := s.toks + 1 }) : wpAny (model prog w) A (inplaceOp .Pow (.int a t) (.int n u)) Q E s := by
  refine PyProof.Rows.ipow_int h0 ?_ h
  have hb := bits_one h1 h2
  have := Int.mul_le_mul (Int.ofNat_le.mpr hb) hn h0 (by omega)
  omega
theorem ishl_one {a n : Int} {t u : Tok} {Q : Value → Shared → Prop} (h1 : -5000000000000000000000000000000000000000 ≤ a) (h2 : a < 5000000000000000000000000000000000000000) (h0 : 0 ≤ n) (hn : n ≤ 8)
    (h : Q (.int (a * 2 ^ n.toNat) s.toks) { s with toks := s.toks + 1 }) : wpAny (model prog w) A (inplaceOp .LShift (.int a t) (.int n u)) Q E s := by
  refine PyProof.Rows.ilshift_int h0 ?_ h
  have hb := bits_one h1 h2
  omega
theorem ishr_one {a n : Int} {t u : Tok} {Q : Value → Shared → Prop} (h0 : 0 ≤ n)
    (h : Q (.int (a.fdiv (2 ^ n.toNat)) s.toks) { s with toks := s.toks + 1 }) : wpAny (model prog w) A (inplaceOp .RShift (.int a t) (.int n u)) Q E s :=
  PyProof.Rows.irshift_int h0 h
theorem small_divisor (a b : Int) (h : Builtin.Int.intBits b ≤ 9000) : Builtin.divisionGoesByPylong a b = false := by
  have h' := intBits_le_iff.mp h
  unfold Builtin.divisionGoesByPylong
  have e : ¬ ((if b == 0 then 0 else b.natAbs.log2 / 30 + 1) > 300) := by
    split
    · omega
    · rename_i hz
      have hz' : b ≠ 0 := by simpa using hz
      have := (Nat.log2_lt (n := b.natAbs) (k := 9000) (by omega)).mpr h'
      omega
  simp only [decide_eq_false e, Bool.false_and]
theorem two_pow_le {n : Int} (h0 : 0 ≤ n) (hn : n ≤ 8) : 0 < (2 : Int) ^ n.toNat ∧ (2 : Int) ^ n.toNat ≤ 256 := by
  obtain ⟨k, rfl⟩ := Int.eq_ofNat_of_zero_le h0
  have hk : k ≤ 8 := by omega
  show 0 < (2 : Int) ^ k ∧ (2 : Int) ^ k ≤ 256
  have : k = 0 ∨ k = 1 ∨ k = 2 ∨ k = 3 ∨ k = 4 ∨ k = 5 ∨ k = 6 ∨ k = 7 ∨ k = 8 := by omega
  rcases this with rfl | rfl | rfl | rfl | rfl | rfl | rfl | rfl | rfl <;> decide
theorem item_pow {value slice : PySem.Expr} {l : Addr} {vs : List Value} {n : Int} {u : Tok} {Q : Value → Shared → Prop} (hl : s.heap.IsList l vs.toArray) (hi : IntsAre vs [1, 2, 4, 8, 16, 32, 64, 128, 256])
    (h0 : 0 ≤ n) (hn : n ≤ 8) (h : ∀ t, Q (.int (2 ^ n.toNat) t) s)
    (hs : subscripted slice false (.ref l) (.int n u) = operate [.ref l, .int n u] (getItem (.ref l) (.int n u)) := by with_unfolding_all rfl) :
    wpAny (model prog w) A (subscriptTail value slice (.ref l) (.int n u)) Q E s := by
  refine item_anyK hl hi h0 (by simp only [List.length_cons, List.length_nil]; omega) (by omega) ?_ hs
  have e : [1, 2, 4, 8, 16, 32, 64, 128, 256].getD n.toNat 0 = (2 : Int) ^ n.toNat := by
    obtain ⟨k, rfl⟩ := Int.eq_ofNat_of_zero_le h0
    have hk : k ≤ 8 := by omega
    show _ = (2 : Int) ^ k
    have : k = 0 ∨ k = 1 ∨ k = 2 ∨ k = 3 ∨ k = 4 ∨ k = 5 ∨ k = 6 ∨ k = 7 ∨ k = 8 := by omega
    rcases this with rfl | rfl | rfl | rfl | rfl | rfl | rfl | rfl | rfl <;> rfl
  intro t
  rw [e]
  exact h t
theorem mul_pow2 {a n : Int} {t u : Tok} {Q : Value → Shared → Prop} (h0 : 0 ≤ n) (hn : n ≤ 8)
    (h : Q (.int (a * 2 ^ n.toNat) s.toks) { s with toks := s.toks + 1 }) : wpAny (model prog w) A (binaryOp .Mult (.int a t) (.int (2 ^ n.toNat) u)) Q E s := by
  have := two_pow_le h0 hn
  exact PyProof.Rows.mul_int h (.of_right (intBits_le_64 (by omega) (by omega)))
theorem ifdiv_small {a b : Int} {t u : Tok} {Q : Value → Shared → Prop} (h0 : 0 ≤ b) (hn : b ≤ 8)
    (h : Q (.int (a.fdiv (b + 1)) s.toks) { s with toks := s.toks + 1 }) : wpAny (model prog w) A (inplaceOp .FloorDiv (.int a t) (.int (b + 1) u)) Q E s :=
  PyProof.Rows.ifloordiv_int (by omega) h (.inl (small_divisor _ _ (Nat.le_trans (intBits_le_64 (by omega) (by omega)) (by decide))))
theorem imod_small {a b : Int} {t u : Tok} {Q : Value → Shared → Prop} (h0 : 0 ≤ b)
    (h : Q (.int (a.fmod (b + 1)) s.toks) { s with toks := s.toks + 1 }) : wpAny (model prog w) A (inplaceOp .Mod (.int a t) (.int (b + 1) u)) Q E s :=
  PyProof.Rows.imod_int (by omega) h
theorem ifdiv_pow2 {a n : Int} {t u : Tok} {Q : Value → Shared → Prop} (h0 : 0 ≤ n) (hn : n ≤ 8)
    (h : Q (.int (a.fdiv (1 * 2 ^ n.toNat)) s.toks) { s with toks := s.toks + 1 }) : wpAny (model prog w) A (inplaceOp .FloorDiv (.int a t) (.int (1 * 2 ^ n.toNat) u)) Q E s := by
  have := two_pow_le h0 hn
  exact PyProof.Rows.ifloordiv_int (by omega) h (.inl (small_divisor _ _ (Nat.le_trans (intBits_le_64 (by omega) (by omega)) (by decide))))
theorem lsh_bit {v k : Int} {t u : Tok} {Q : Value → Shared → Prop} (hv : 0 ≤ v ∧ v ≤ 1) (h0 : 0 ≤ k) (hk : k < 64) (h : Q (.int (v * 2 ^ k.toNat) s.toks) { s with toks := s.toks + 1 }) : wpAny (model prog w) A (binaryOp .LShift (.int v t) (.int k u)) Q E s := by
  have := intBits_le_64 (k := v) (by omega) (by omega)
  exact PyProof.Rows.lshift_int h0 (by omega) h
theorem lsh64 {t u : Tok} {Q : Value → Shared → Prop} (h : Q (.int 18446744073709551616 s.toks) { s with toks := s.toks + 1 }) : wpAny (model prog w) A (binaryOp .LShift (.int 1 t) (.int 64 u)) Q E s :=
  PyProof.Rows.lshift_int (by decide) (by decide +kernel) h
theorem mod64 {a : Int} {t u : Tok} {Q : Value → Shared → Prop} (h : ∀ (n : Int) (t : Tok), 0 ≤ n → n < 18446744073709551616 → Q (.int n t) { s with toks := s.toks + 1 }) :
    wpAny (model prog w) A (binaryOp .Mod (.int a t) (.int 18446744073709551616 u)) Q E s :=
  PyProof.Rows.mod_int (by decide) (h _ _ (fmod_lo a (by decide)) (fmod_hi a (by decide)))
end
end Mine
namespace Mine
theorem news_drop {h₀ h : Heap} {L : Addr} {l : List (Addr × Obj)} (n : Nat) (N : News h₀ L h l) : News h₀ L h (l.drop n) := fun p hp => N p (List.mem_of_mem_drop hp)
end Mine
end
section
open PySem PySem.W PySem.Calls PyProof.Rows PyProof.V PySem.Spec
namespace Mine
section
variable {prog : Program} {w : World} {A : Around} {E : Value → Shared → Prop} {s : Shared}
theorem count_order {l : Addr} {x y : Int} {Q : Value → Shared → Prop} (hl : s.heap.IsList l [Value.bool (decide (x < y)), Value.bool (x == y), Value.bool (decide (y < x))].toArray)
    (h : Q (.int 1 s.toks) { s with toks := s.toks + 1 }) : wpAny (model prog w) A (call (.builtin "list.count") [.ref l, .bool true]) Q E s := by
  have ra : ReadsAll s.heap [Value.bool (decide (x < y)), Value.bool (x == y), Value.bool (decide (y < x))] [.bool (decide (x < y)), .bool (x == y), .bool (decide (y < x))] [] :=
    .cons (.bool _) (.cons (.bool _) (.cons (.bool _) .nil))
  refine count_list_bools hl ra rfl ?_
  have e : Spec.countIn (.bool true) [.bool (decide (x < y)), .bool (x == y), .bool (decide (y < x))] = 1 := by
    simp only [Spec.countIn, Spec.same]
    rcases Int.lt_trichotomy x y with h | h | h
    · rw [decide_eq_true h, decide_eq_false (show ¬ y < x by omega), beq_false_of_ne (show x ≠ y by omega)]; rfl
    · subst h; simp
    · rw [decide_eq_true h, decide_eq_false (show ¬ x < y by omega), beq_false_of_ne (show x ≠ y by omega)]; rfl
  rw [e]
  exact h
end
end Mine
namespace Mine
theorem ite_bool {M : Model} {A : Around} {env : Env} {b : Bool} {n1 n2 : Nat} {p1 p2 : Pos} {Q E : Value → Shared → Prop} {s : Shared} (h : Q (.bool b) s) :
    if b = true then wpAny M A (eval (.Constant (.bool true) n1 p1) env) Q E s else wpAny M A (eval (.Constant (.bool false) n2 p2) env) Q E s := by
  cases b
  · exact wpAny_Constant_bool h
  · exact wpAny_Constant_bool h
end Mine
end
section
namespace Mine
open PySem PySem.Float64
theorem V_exact {q K : Nat} (hq : q < 2 ^ 53) (hK : 52 ≤ K) : ∃ t, V t = q * 2 ^ K := by
  by_cases hz : q = 0
  · exact ⟨0, by rw [V_zero, hz, Nat.zero_mul]⟩
  · have h1 : 2 ^ q.log2 ≤ q := Nat.log2_self_le hz
    have h2 : q < 2 ^ (q.log2 + 1) := Nat.lt_log2_self
    have h3 : q.log2 < 53 := (Nat.log2_lt hz).mpr hq
    generalize q.log2 = l at h1 h2 h3
    have e1 : 2 ^ l * 2 ^ (52 - l) = 2 ^ 52 := by rw [← Nat.pow_add]; congr 1; omega
    have e2 : 2 ^ (l + 1) * 2 ^ (52 - l) = 2 ^ 53 := by rw [← Nat.pow_add]; congr 1; omega
    refine ⟨(K - (52 - l)) * 2 ^ 52 + q * 2 ^ (52 - l), ?_⟩
    rw [V_at (q := q * 2 ^ (52 - l)) ?_ (.inl ?_)]
    · rw [Nat.mul_assoc, ← Nat.pow_add]; congr 2; omega
    · rw [← e2]; exact Nat.mul_le_mul_right _ (Nat.le_of_lt h2)
    · rw [← e1]; exact Nat.mul_le_mul_right _ h1
theorem small_enough {q K D : Nat} (hq : q < 2 ^ 53) (hK : K ≤ 1990) (hD : 0 < D) : ¬ D * ((2 ^ 54 - 1) * 2 ^ 2045) ≤ 2 * (D * (q * 2 ^ K)) := by
  have h1 : 2 * (q * 2 ^ K) < (2 ^ 54 - 1) * 2 ^ 2045 := by
    have a : 2 * (q * 2 ^ K) ≤ 2 ^ 54 * 2 ^ K := by
      rw [← Nat.mul_assoc]; exact Nat.mul_le_mul_right _ (by omega)
    have b : (2 : Nat) ^ 54 * 2 ^ K ≤ 2 ^ 54 * 2 ^ 1990 := Nat.mul_le_mul_left _ (Nat.pow_le_pow_right (by decide) hK)
    exact Nat.lt_of_le_of_lt (Nat.le_trans a b) (by decide +kernel)
  intro h
  rw [show 2 * (D * (q * 2 ^ K)) = D * (2 * (q * 2 ^ K)) by rw [← Nat.mul_assoc, ← Nat.mul_assoc, Nat.mul_comm 2 D, Nat.mul_assoc, Nat.mul_assoc]] at h
  exact Nat.not_lt.mpr (Nat.le_of_mul_le_mul_left h hD) h1
theorem right_exact {r : UInt64} {neg : Bool} {W D q K : Nat} (h : Right r neg W D) (hD : 0 < D) (hq : q < 2 ^ 53) (hK : 52 ≤ K) (hK2 : K ≤ 1990) (hW : W = D * (q * 2 ^ K)) :
    ∃ m e, decode r = .fin neg m e ∧ val r = sgn neg (q * 2 ^ K) := by
  obtain ⟨t, hr, hle, hov, hnear⟩ := h
  have ht : t < infMag := by
    have : t ≠ infMag := fun e => small_enough hq hK2 hD (by rw [← hW]; exact hov.mp e)
    omega
  obtain ⟨t', ht'⟩ := V_exact hq hK
  have h1 := (hnear ht t').1
  have hz : dist W (D * V t') = 0 := by
    rw [ht', ← hW]; unfold dist; omega
  rw [hz] at h1
  have h2 : W = D * V t := by unfold dist at h1; omega
  have h3 : V t = q * 2 ^ K := Nat.eq_of_mul_eq_mul_left hD (by rw [← h2, hW])
  obtain ⟨m, e, hd, _⟩ := decode_pack neg ht
  refine ⟨m, e, by rw [hr]; exact hd, ?_⟩
  rw [hr, val_pack neg ht, h3]
def Eighths (x : UInt64) (n : Nat) (K : Nat) : Prop := ∃ m e, decode x = .fin false m e ∧ val x = ((n * 2 ^ K : Nat) : Int)
theorem eighths_div {n d K : Nat} {sg : Bool} (N : Nat) (hs : sg = false) (hd : 0 < d) (hn : N < 2 ^ 53) (hK : 52 ≤ K) (hK2 : K ≤ 1990) (hW : n * 2 ^ 1074 = N * 2 ^ K * d) : Eighths (ofFrac sg n d) N K := by
  subst hs
  have h : Right (ofFrac false n d) false (N * 2 ^ K) 1 := ofFrac_right hd (by rw [Nat.mul_one]; exact hW) (by decide)
  exact right_exact h (by decide) hn hK hK2 (by rw [Nat.one_mul])
theorem eighths_mul {x y : UInt64} {n k N K : Nat} (hx : Eighths x n 1071) (hy : Eighths y k 1074) (hn : N < 2 ^ 53) (hK : 52 ≤ K) (hK2 : K ≤ 1990) (hW : n * 2 ^ 1071 * (k * 2 ^ 1074) = 2 ^ 1074 * (N * 2 ^ K)) : Eighths (mul x y) N K := by
  obtain ⟨m, e, hd, hv⟩ := hx
  obtain ⟨m', e', hd', hv'⟩ := hy
  have h := mul_right hd hd'
  rw [hv, hv', Int.natAbs_natCast, Int.natAbs_natCast] at h
  exact right_exact h (Nat.two_pow_pos _) hn hK hK2 hW
theorem eighths_fin {x : UInt64} {n K : Nat} (h : Eighths x n K) : isInf x = false := by
  obtain ⟨m, e, hd, _⟩ := h
  unfold isInf
  rw [hd]
theorem eighths_cmp {x : UInt64} {n : Nat} (h : Eighths x n 1074) : cmpInt x (n : Int) = some .eq := by
  obtain ⟨m, e, hd, hv⟩ := h
  rw [cmpInt_right hd, hv, Int.natCast_mul, Int.natCast_pow]
  exact congrArg some (Int.compare_eq_eq.mpr rfl)
theorem pow_split : (2 : Nat) ^ 1074 = 2 ^ 1071 * 8 := by decide +kernel
def IsPart (x : UInt64) (p : Int) (K : Nat) : Prop := 0 ≤ p ∧ p < 100000 ∧ Eighths x p.toNat K
theorem div4_part {p : Int} (h0 : 0 ≤ p) (h1 : p < 100000) : IsPart (ofFrac (decide (p * 4 < 0) != decide ((4 : Int) < 0)) (p * 4).natAbs (Int.natAbs 4)) p 1074 := by
  refine ⟨h0, h1, ?_⟩
  obtain ⟨n, rfl⟩ := Int.eq_ofNat_of_zero_le h0
  rw [Int.toNat_natCast]
  refine eighths_div n ?_ (by decide) (by omega) (by decide) (by decide) ?_
  · rw [decide_eq_false (by omega : ¬ ((n : Int) * 4 < 0))]; decide
  · have e : ((n : Int) * 4).natAbs = n * 4 := by omega
    rw [e]
    exact Nat.mul_right_comm n 4 _
theorem div8_part {p : Int} (h0 : 0 ≤ p) (h1 : p < 100000) : IsPart (ofFrac (decide (p < 0) != decide ((8 : Int) < 0)) p.natAbs (Int.natAbs 8)) p 1071 := by
  refine ⟨h0, h1, ?_⟩
  obtain ⟨n, rfl⟩ := Int.eq_ofNat_of_zero_le h0
  rw [Int.toNat_natCast]
  refine eighths_div n ?_ (by decide) (by omega) (by decide) (by decide) ?_
  · rw [decide_eq_false (by omega : ¬ ((n : Int) < 0))]; decide
  · have e : ((n : Int)).natAbs = n := by omega
    have e8 : Int.natAbs 8 = 8 := rfl
    rw [e, e8, pow_split]
    exact (Nat.mul_assoc _ _ _).symm
theorem mul8_part {x : UInt64} {p : Int} (h : IsPart x p 1071) : IsPart (mul x (ofInt 8)) p 1074 := by
  obtain ⟨h0, h1, hx⟩ := h
  refine ⟨h0, h1, ?_⟩
  have e8 : Int.natAbs 8 = 8 := rfl
  have h8 : Eighths (ofInt 8) 8 1074 := by
    unfold ofInt
    exact eighths_div 8 (by decide) (by decide) (by decide) (by decide) (by decide) (by rw [e8, Nat.mul_one])
  refine eighths_mul hx h8 (by omega) (by decide) (by decide) ?_
  rw [pow_split]
  generalize (2 : Nat) ^ 1071 = Z
  generalize p.toNat = n
  ac_rfl
theorem part_cmp {x : UInt64} {p : Int} (h : IsPart x p 1074) : cmpInt x p = some .eq := by
  obtain ⟨h0, h1, hx⟩ := h
  have := eighths_cmp hx
  rwa [Int.toNat_of_nonneg h0] at this
section
open PySem.W PySem.Calls PyProof.Rows
variable {prog : Program} {w : World} {A : Around} {E : Value → Shared → Prop} {s : Shared}
theorem div4_step {p : Int} {t u : Tok} {Q : Value → Shared → Prop} (h0 : 0 ≤ p) (h1 : p < 100000) (h : ∀ (x : UInt64) (t : Tok), IsPart x p 1074 → Q (.float x t) { s with toks := s.toks + 1 }) :
    wpAny (model prog w) A (binaryOp .Div (.int (p * 4) t) (.int 4 u)) Q E s :=
  AutoIntOps.truediv_2 (by decide) (by rw [eighths_fin (div4_part h0 h1).2.2]; decide) (h _ _ (div4_part h0 h1))
theorem div8_step {p : Int} {t u : Tok} {Q : Value → Shared → Prop} (h0 : 0 ≤ p) (h1 : p < 100000) (h : ∀ (x : UInt64) (t : Tok), IsPart x p 1071 → Q (.float x t) { s with toks := s.toks + 1 }) :
    wpAny (model prog w) A (binaryOp .Div (.int p t) (.int 8 u)) Q E s :=
  AutoIntOps.truediv_2 (by decide) (by rw [eighths_fin (div8_part h0 h1).2.2]; decide) (h _ _ (div8_part h0 h1))
theorem mul8_step {x : UInt64} {p : Int} {t u : Tok} {Q : Value → Shared → Prop} (hx : IsPart x p 1071) (h : ∀ (x : UInt64) (t : Tok), IsPart x p 1074 → Q (.float x t) { s with toks := s.toks + 1 }) :
    wpAny (model prog w) A (binaryOp .Mult (.float x t) (.int 8 u)) Q E s :=
  mul_fi_fits (by decide +kernel) (h _ _ (mul8_part hx))
theorem ne_part {x : UInt64} {p : Int} {t u : Tok} {Q : Value → Shared → Prop} (hx : IsPart x p 1074) (h : Q (.bool false) s) :
    wpAny (model prog w) A (compareOp .NotEq (.float x t) (.int p u)) Q E s := by
  refine ne_fi ?_
  rw [part_cmp hx]
  exact h
theorem mod_part {a : Int} {t u : Tok} {Q : Value → Shared → Prop} (h : ∀ (n : Int) (t : Tok), 0 ≤ n → n < 100000 → Q (.int n t) { s with toks := s.toks + 1 }) :
    wpAny (model prog w) A (binaryOp .Mod (.int a t) (.int 100000 u)) Q E s :=
  PyProof.Rows.mod_int (by decide) (h _ _ (fmod_lo a (by decide)) (fmod_hi a (by decide)))
end
end Mine
end
section
open PySem PySem.W PySem.Calls PyProof.Rows PyProof.V PySem.Spec
namespace Mine
def lamQual : Str := Str.ofString "law" ++ Str.ofString ".<locals>." ++ Str.ofString "<lambda>"
def CodeIs (oc : Obj) : Prop := ∃ (vs : Array Value) (t : Tok), oc.data = .fields vs ∧ vs[1]? = some (.str lamQual t)
def TabSt (ps : Array Value) (news : List (Addr × Obj)) : Prop := ps = #[] ∨ ∃ (c : Addr) (oc : Obj), ps = #[rawInt 84, rawInt 53, .ref c] ∧ (c, oc) ∈ news ∧ CodeIs oc
def TabMore (ps : Array Value) (more : List (Addr × Obj)) : Prop := (ps = #[] ∧ more = []) ∨ ∃ (c : Addr) (oc : Obj), ps = #[rawInt 84, rawInt 53, .ref c] ∧ more = [(c, oc)] ∧ CodeIs oc
theorem apart {h₀ h : Heap} {L a b : Addr} {news : List (Addr × Obj)} {o1 o2 : Obj} (N : News h₀ L h news) (h1 : (a, o1) ∈ news) (h2 : (b, o2) ∈ news) (hne : o1.data ≠ o2.data) : a ≠ b := by
  intro e
  have e1 := (N _ h1).1
  have e2 := (N _ h2).1
  rw [e] at e1
  exact hne (congrArg Obj.data (Option.some.inj (e1.symm.trans e2)))
theorem code_ne_seq {oc : Obj} (h : CodeIs oc) (us : Array Value) (c : Nat) : oc.data ≠ (listOf us c).data := by
  obtain ⟨vs, t, e, _⟩ := h
  rw [e]
  intro q
  cases q
theorem code_ne_ints {oc o : Obj} {a b : Value} {k : Int} {u : Tok} (h : CodeIs oc) (ho : o.data = .fields #[a, .int k u, b]) : oc.data ≠ o.data := by
  obtain ⟨vs, t, e, e2⟩ := h
  rw [e, ho]
  intro q
  cases q
  cases e2
def RowInv (stored : List Str) (m₀ : Str → Option Value) (m : Str → Option Value) (nx : List (Addr × Obj)) : Prop :=
  ∃ (l : Addr) (vs : List Value) (ns : List Int) (c : Nat) (ps : Array Value) (more : List (Addr × Obj)), nx = (l, listOf vs.toArray c) :: (170, tabObj ps) :: more ∧ TabMore ps more ∧ IntsAre vs ns ∧ ns.length ≤ 30 ∧ m (Str.ofString "row") = some (.ref l) ∧
    ∀ z, z ≠ Str.ofString "k" → z ≠ Str.ofString "row" → stored.contains z = false → m z = m₀ z
def RowEnd (h₀ : Heap) (L : Addr) (stored : List Str) (m₀ : Str → Option Value) (own : List (Addr × Obj)) (s₁ s₂ : Shared) : Prop :=
  ∃ (h' : Heap) (tk : Nat) (m' : Str → Option Value) (news' : List (Addr × Obj)) (l : Addr) (vs : List Value) (ns : List Int) (c : Nat) (ps : Array Value), s₂ = { s₁ with heap := h', toks := tk } ∧ Fr h₀ L h' m' ∧ News h₀ L h' news' ∧
    (l, listOf vs.toArray c) ∈ news' ∧ (170, tabObj ps) ∈ news' ∧ TabSt ps news' ∧ (∀ p ∈ own, p ∈ news') ∧ IntsAre vs ns ∧ ns.length ≤ 30 ∧ m' (Str.ofString "row") = some (.ref l) ∧
    ∀ z, z ≠ Str.ofString "k" → z ≠ Str.ofString "row" → stored.contains z = false → m' z = m₀ z
def RowPost (h₀ : Heap) (L : Addr) (stored : List Str) (m₀ : Str → Option Value) (own : List (Addr × Obj)) (s₁ : Shared) (Q : Flow → Shared → Prop) (f : Flow) (s₂ : Shared) : Prop :=
  match f with
  | .ret v => Q (.ret v) s₂
  | .brk => Q .next s₂
  | _ => RowEnd h₀ L stored m₀ own s₁ s₂
section
variable {prog : Program} {w : World} {A : Around} {E : Value → Shared → Prop} {s : Shared} {env : Env} {h₀ : Heap} {body : List Stmt} {Q : Flow → Shared → Prop}
theorem rows_range {r l₀ : Addr} {b₀ : Int} {t₀ u₀ v₀ : Tok} {n : Nat} {m₀ : Str → Option Value} {vs₀ : List Value} {ns₀ : List Int} {c₀ : Nat} (stored : List Str)
    (hh : A.handled = none) (hr : IsRange s.heap r 0 b₀ 1 t₀ u₀ v₀) (hsmall : Builtin.Range.small 0 b₀ 1 = true) (hn : Builtin.Range.rangeSize 0 b₀ 1 = (n : Int))
    (F : Fr h₀ env.locals s.heap m₀) (N : News h₀ env.locals s.heap [(l₀, listOf vs₀.toArray c₀), (170, tabObj #[])]) (hi₀ : IntsAre vs₀ ns₀) (hlen₀ : ns₀.length ≤ 30) (hrow : m₀ (Str.ofString "row") = some (.ref l₀))
    (turn : ∀ (l : Addr) (vs : List Value) (ns : List Int) (c : Nat) (k : Int) (t : Tok) (u : Str → Option Value) (h : Heap) (tk : Nat) (ps : Array Value) (own : List (Addr × Obj)), 0 ≤ k → k < n → IntsAre vs ns → vs.length = ns.length → ns.length ≤ 30 → l ≠ 170 → OwnOff own [l, 170] → TabSt ps own →
      Fr h₀ env.locals h (fun y => if y = Str.ofString "k" then some (.int k t) else if y = Str.ofString "row" then some (.ref l) else if stored.contains y then u y else m₀ y) →
      News h₀ env.locals h ((l, listOf vs.toArray c) :: (170, tabObj ps) :: own) →
      wpAny (model prog w) A (execs body env) (RowPost h₀ env.locals stored m₀ own { s with heap := h, toks := tk } Q) E { s with heap := h, toks := tk })
    (done : ∀ (m₁ : Str → Option Value) (l : Addr) (o : Obj) (ps : Array Value) (more : List (Addr × Obj)) (h : Heap) (tk : Nat), Fr h₀ env.locals h m₁ → News h₀ env.locals h ((l, o) :: (170, tabObj ps) :: more) → Q .next { s with heap := h, toks := tk }) :
    wpAny (model prog w) A (pyIter (.ref r)) (fun it s₂ => LoopAtV prog w A h₀ env (Str.ofString "k") body Q E it s₂) E s := by
  refine wpAny_pyIter_range hr hsmall ?_
  have W : Walks prog w A s.heap.objs.size [s.heap.objs.size] [s.heap.objs.size] n (fun i v => i < n ∧ ∃ t, v = .int (0 + i * 1) t)
      (fun i h => IsRangeIter h s.heap.objs.size (0 + (i : Nat) * 1) ((n : Int) - (i : Nat)) 1) := (Walks.range hh _ 0 1 n).bound
  have hnone : h₀.get? s.heap.objs.size = none := next_is_new F
  refine ⟨_, _, _, n, _, _, m₀, [(l₀, listOf vs₀.toArray c₀), (170, tabObj #[])], fun _ => RowInv stored m₀, rfl, W, ?_, ?_, ?_, (by show IsRangeIter _ _ _ _ _; rw [hn]; simpa using Heap.get?_push_size _ rfl), F.push _,
    (fun p hp => ⟨Heap.get?_push_of_some _ (N p hp).1, (N p hp).2⟩), ⟨l₀, vs₀, ns₀, c₀, #[], [], rfl, .inl ⟨rfl, rfl⟩, hi₀, hlen₀, hrow, fun _ _ _ _ => rfl⟩, ?_, ?_⟩
  · intro hm
    exact absurd F.ns.lt ((List.mem_singleton.mp hm) ▸ Nat.lt_irrefl _)
  · intro b hb
    rw [List.mem_singleton.mp hb]
    exact hnone
  · intro p hp hI
    exact absurd (Heap.lt_size (N p hp).1) ((List.mem_singleton.mp hI) ▸ Nat.lt_irrefl _)
  · rintro i v m₁ news₁ s₁ own ⟨hh', tk', rfl⟩ hin ⟨_, t, rfl⟩ ⟨l, vs, ns, c, ps, more, rfl, hMore, hI, hL, hR, hM⟩ hoff hown hget hall hst F₁ N₁
    have hI2 := hall s.heap.objs.size (.head _) hnone _ hst
    have Nn : News h₀ env.locals hh' ((l, listOf vs.toArray c) :: (170, tabObj ps) :: more) := fun p hp => N₁ p (List.mem_append.mpr (.inr hp))
    have hl170 : l ≠ 170 := apart Nn (.head _) (.tail _ (.head _)) (by intro q; cases q)
    have hmoreOff : ∀ p ∈ more, p.1 ≠ l ∧ p.1 ≠ 170 := by
      rcases hMore with ⟨_, rfl⟩ | ⟨c', oc, rfl, rfl, hC⟩
      · intro p hp; cases hp
      · intro p hp
        rw [List.mem_singleton.mp hp]
        exact ⟨apart Nn (.tail _ (.tail _ (.head _))) (.head _) (code_ne_seq hC _ _), apart Nn (.tail _ (.tail _ (.head _))) (.tail _ (.head _)) (code_ne_ints hC rfl)⟩
    have hsep : OwnOff (more ++ own) [l, 170] := by
      intro p hp b hb e
      rcases List.mem_append.mp hp with hp | hp
      · rcases List.mem_cons.mp hb with rfl | hb
        · exact (hmoreOff p hp).1 e
        · exact (hmoreOff p hp).2 (e.trans (List.mem_singleton.mp hb))
      · have h1 := hown p hp
        rcases List.mem_cons.mp hb with rfl | hb
        · exact hoff _ (.head _) (e ▸ h1)
        · exact hoff _ (.tail _ (.head _)) (List.mem_singleton.mp hb ▸ e ▸ h1)
    have hTab : TabSt ps (more ++ own) := by
      rcases hMore with ⟨rfl, _⟩ | ⟨c', oc, rfl, rfl, hC⟩
      · exact .inl rfl
      · exact .inr ⟨c', oc, rfl, .head _, hC⟩
    have N₂ : News h₀ env.locals hh' ((l, listOf vs.toArray c) :: (170, tabObj ps) :: (more ++ own)) := fun p hp => by
      rcases List.mem_cons.mp hp with rfl | hp
      · exact Nn _ (.head _)
      · rcases List.mem_cons.mp hp with rfl | hp
        · exact Nn _ (.tail _ (.head _))
        · rcases List.mem_append.mp hp with hp | hp
          · exact Nn _ (.tail _ (.tail _ hp))
          · exact N₁ p (List.mem_append.mpr (.inl hp))
    have em : (fun y => if y = Str.ofString "k" then some (Value.int (0 + i * 1) t) else m₁ y) =
        fun y => if y = Str.ofString "k" then some (Value.int (0 + i * 1) t) else if y = Str.ofString "row" then some (.ref l) else if stored.contains y then m₁ y else m₀ y := by
      funext y
      by_cases h1 : y = Str.ofString "k"
      · rw [if_pos h1, if_pos h1]
      · rw [if_neg h1, if_neg h1]
        by_cases h2 : y = Str.ofString "row"
        · rw [if_pos h2, h2, hR]
        · rw [if_neg h2]
          cases h3 : stored.contains y with
          | true => rfl
          | false => exact hM y h1 h2 h3
    rw [em] at F₁
    refine wpAny_mono (turn l vs ns c (0 + i * 1) t m₁ hh' tk' ps (more ++ own) (by omega) (by omega) hI hI.length hL hl170 hsep hTab F₁ N₂) (fun f s₂ p => ?_) fun _ _ e => e
    have fin : RowEnd h₀ env.locals stored m₀ (more ++ own) { s with heap := hh', toks := tk' } s₂ → LoopStepU h₀ env.locals [s.heap.objs.size] own (RowInv stored m₀) { s with heap := hh', toks := tk' } .next s₂ := by
      rintro ⟨h', tk, m', news', l', vs', ns', c', ps', e, F', N', hl, h170, hTab', hown', hI', hL', hR', hM'⟩
      have hI3 := hown' _ (List.mem_append.mpr (.inr hI2))
      have hlI : l' ≠ s.heap.objs.size := apart N' hl hI3 (by intro q; cases q)
      have h170I : (170 : Addr) ≠ s.heap.objs.size := fun q => hoff (170, tabObj ps) (.tail _ (.head _)) (List.mem_singleton.mpr q)
      obtain ⟨more', hMore', hsub, hne⟩ : ∃ more', TabMore ps' more' ∧ (∀ p ∈ more', p ∈ news') ∧ ∀ p ∈ more', p.1 ≠ s.heap.objs.size := by
        rcases hTab' with rfl | ⟨c'', oc, rfl, hmem, hC⟩
        · exact ⟨[], .inl ⟨rfl, rfl⟩, (fun _ h => by cases h), fun _ h => by cases h⟩
        · refine ⟨[(c'', oc)], .inr ⟨c'', oc, rfl, rfl, hC⟩, fun p hp => ?_, fun p hp => ?_⟩
          · rw [List.mem_singleton.mp hp]; exact hmem
          · rw [List.mem_singleton.mp hp]; exact apart N' hmem hI3 (code_ne_ints hC rfl)
      refine ⟨rfl, h', tk, m', (l', listOf vs'.toArray c') :: (170, tabObj ps') :: more', e, F', fun p hp => N' p ?_, fun p hp hq => ?_, l', vs', ns', c', ps', more', rfl, hMore', hI', hL', hR', hM'⟩
      · rcases List.mem_append.mp hp with hp | hp
        · exact hown' p (List.mem_append.mpr (.inr hp))
        · rcases List.mem_cons.mp hp with rfl | hp
          · exact hl
          · rcases List.mem_cons.mp hp with rfl | hp
            · exact h170
            · exact hsub p hp
      · have hq := List.mem_singleton.mp hq
        rcases List.mem_cons.mp hp with rfl | hp
        · exact hlI hq
        · rcases List.mem_cons.mp hp with rfl | hp
          · exact h170I hq
          · exact hne p hp hq
    cases f with
    | ret v => exact .ret p
    | brk => exact .brk p
    | next => exact .next (fin p)
    | cont => exact .cont (fin p)
  · rintro h' tk m' news' F' N' _ ⟨l, vs, ns, c, ps, more, rfl, _⟩
    exact done m' l _ ps more h' tk F' N'
end
end Mine
end
section
open PySem PySem.W PySem.Calls PyProof.Rows PyProof.V PySem.Spec
namespace Mine
section
variable {M : Model} {A : Around} {E : Value → Shared → Prop} {s : Shared} {h₀ : Heap} {L a c : Addr} {m mg mb : Str → Option Value} {cn : Str} {cs : Scope} {ccd : Value} {cl : List (Str × Addr)} {news : List (Addr × Obj)} {g : Obj → List (Addr × Obj)}
  {p : Program} {loose : List Str} {mean : ExcName → Option Value} {name qual : Str} {params : Arguments} {body : Expr} {scope : Scope} {ps : Array Value} {pos : Pos} {firstLine : Nat} {clos : List (Str × Addr)}
theorem updF_same {d : Addr} {o : Obj} {l : List (Addr × Obj)} {g : Obj → List (Addr × Obj)} (U : UpdF d o l g) : g o = l ∧ (d, o) ∈ l := by
  obtain ⟨pre, post, e, hg, _, _⟩ := U.split
  exact ⟨by rw [hg, e], by rw [e]; exact List.mem_append_right _ (.head _)⟩
theorem lam_any {Q : Value → Shared → Prop} (F : Fr h₀ L s.heap m) (N : News h₀ L s.heap news) (T : Top p loose mean mg mb h₀) (C : CodeHd h₀ c 170) (hcd : ccd = .ref c) (U : UpdF 170 (tabObj ps) news g) (S : TabSt ps news)
    (hcl : closureFor scope (envX cn cs L a ccd cl) = pure clos) (hq : qual = lamQual) (h1 : pos.line = 84) (h2 : pos.col = 53)
    (h : ∀ f c' oc vs t ctv h' tk, Fr h₀ L h' m →
      News h₀ L h' ((f, kla_obj name qual params body scope clos ((mg "__name__").getD .none) c' ctv) :: (c', oc) :: g (tabObj #[rawInt 84, rawInt 53, .ref c'])) →
      oc.data = .fields vs → vs[1]? = some (.str qual t) → (∀ q ∈ news, q.1 < f) → c' < f → Q (.ref f) { s with heap := h', toks := tk }) :
    wpAny M A (makeFunction name qual params (.expr body) scope (envX cn cs L a ccd cl) [] [] [] pos firstLine) Q E s := by
  rcases S with rfl | ⟨c', oc, rfl, hmem, vs, t, hd, hv⟩
  · refine kla_nest F N T C hcd U True.intro rfl hcl fun f c' oc vs t ctv h' tk F' N' hd hv hlt hf => ?_
    have e : (#[] : Array Value) ++ #[rawInt pos.line, rawInt pos.col, .ref c'] = #[rawInt 84, rawInt 53, .ref c'] := by rw [h1, h2]; rfl
    rw [e] at N'
    exact h f c' oc vs t ctv h' tk F' N' hd hv (fun q hq => Nat.lt_trans (hlt q hq) hf) hf
  · obtain ⟨hg, hm⟩ := updF_same U
    refine kla_hit (c' := c') F N T C hcd hm True.intro ?_ hcl fun f ctv h' tk F' N' hlt => ?_
    · simp [codeAmong, rawInt, h1, h2]
    · refine h f c' oc vs t ctv h' tk F' (fun q hq => N' q ?_) hd (by rw [hq]; exact hv) hlt (hlt _ hmem)
      rcases List.mem_cons.mp hq with rfl | hq
      · exact .head _
      · rcases List.mem_cons.mp hq with rfl | hq
        · exact .tail _ hmem
        · rw [hg] at hq
          exact .tail _ hq
end
end Mine
namespace Mine
theorem TabSt.cons {ps : Array Value} {x : Addr × Obj} {r : List (Addr × Obj)} (S : TabSt ps r) : TabSt ps (x :: r) := by
  rcases S with h | ⟨c, oc, h1, h2, h3⟩
  · exact .inl h
  · exact .inr ⟨c, oc, h1, .tail _ h2, h3⟩
end Mine
namespace Mine
theorem row_end {h₀ h' : Heap} {L l c' : Addr} {stored : List Str} {m₀ m' : Str → Option Value} {own news' : List (Addr × Obj)} {s₁ : Shared} {tk c : Nat} {vs : List Value} {ns : List Int} {oc : Obj} {vs' : Array Value} {q : Str} {t' : Tok} {Q : Flow → Shared → Prop}
    (F : Fr h₀ L h' m') (N : News h₀ L h' news') (hI : IntsAre vs ns) (hl : (l, listOf vs.toArray c) ∈ news') (h170 : (170, tabObj #[rawInt 84, rawInt 53, .ref c']) ∈ news') (hc : (c', oc) ∈ news') (d1 : oc.data = .fields vs') (d2 : vs'[1]? = some (.str q t')) (hq : q = lamQual)
    (hown : ∀ p ∈ own, p ∈ news') (hL : ns.length ≤ 30) (hrow : m' (Str.ofString "row") = some (.ref l)) (hsame : ∀ z, z ≠ Str.ofString "k" → z ≠ Str.ofString "row" → stored.contains z = false → m' z = m₀ z) :
    RowPost h₀ L stored m₀ own s₁ Q .next { s₁ with heap := h', toks := tk } :=
  ⟨h', tk, m', news', l, vs, ns, c, _, rfl, F, N, hl, h170, .inr ⟨c', oc, rfl, hc, vs', t', d1, by rw [d2, hq]⟩, hown, hI, hL, hrow, hsame⟩
theorem take30 {ns : List Int} : (List.take 30 ns).length ≤ 30 := by rw [List.length_take]; omega
end Mine
namespace Mine
theorem fr_name {h₀ h : Heap} {L : Addr} {m : Str → Option Value} {n : Str} {v : Value} (F : Fr h₀ L h m) (e : m n = some v) : Fr h₀ L h (fun y => if y = n then some v else m y) := by
  have em : (fun y => if y = n then some v else m y) = m := by
    funext y
    by_cases hy : y = n
    · rw [if_pos hy, hy, e]
    · rw [if_neg hy]
  rw [em]
  exact F
end Mine
end
section
set_option maxRecDepth 100000
open PySem PySem.W PySem.Calls PyProof.Rows PyProof.V PySem.Spec
namespace Mine
theorem ha_kind : builtinKind "hasattr" = none := by decide +kernel
theorem ha_plain : plainId "hasattr" = true := by decide +kernel
theorem ha_entry : entryFor table "hasattr" = some Builtin.«hasattr» := entryFor_of_tree (by kernel_rfl)
theorem ha_args (a b : Value) : argsOk "hasattr" ⟨[a, b], []⟩ := by unfold argsOk; kernel_rfl
theorem ty_gi : typeOf (.builtin "list.__getitem__") = pure (.type "method_descriptor") := by show builtinType _ = _; rw [builtinType_eq_fast]; kernel_rfl
theorem md_slot : Slot "method_descriptor" "__get__" "method_descriptor.__get__" :=
  .of (owner := "method_descriptor") (n := "__get__") (by rw [typeLookup_type, builtinLookup_eq_fast]; kernel_rfl) (by decide +kernel) (by decide +kernel) (by decide +kernel)
    (by first | exact .inl (by decide +kernel) | exact .inr (by decide +kernel)) (by rw [isSubtype_type]; kernel_rfl)
theorem md_entry : entryFor table "method_descriptor.__get__" = some Builtin.«method_descriptor.__get__» := entryFor_of_tree (by kernel_rfl)
theorem md_args (a b c : Value) : argsOk "method_descriptor.__get__" ⟨[a, b, c], []⟩ := by unfold argsOk; kernel_rfl
theorem told : Manifest.toldItsClass.contains "list.__getitem__" = false := by decide +kernel
theorem sub_ll : isSubtype (.type "list") (.type "list") = pure true := by rw [isSubtype_type]; kernel_rfl
theorem sub_lm : isSubtype (.type "list") (.type "module") = pure false := by rw [isSubtype_type]; kernel_rfl
end Mine
end
section
set_option maxRecDepth 100000
open PySem PySem.W PySem.Calls PyProof.Rows PyProof.V PySem.Spec
namespace Mine
theorem own_gi : ".".intercalate ("list.__getitem__".cutAt '.').dropLast = "list" := by first | decide +kernel | kernel_rfl
theorem sub_own : isSubtype (.type "list") (.type (".".intercalate ("list.__getitem__".cutAt '.').dropLast)) = pure true := by rw [own_gi]; exact sub_ll
section
variable {prog : Program} {w : World} {A : Around} {E : Value → Shared → Prop} {h : Heap} {g : Array GenState} {d : Drawn} {t : Nat} {os : OsState} {a : Addr} {o : Obj}
theorem md_get {R : Result → Shared → Prop} (hx : h.get? a = some o) (hc : o.cls = .type "list") (hq : ∀ b, R (.ok (.ret (.ref h.objs.size))) ⟨h.push b, g, d, t, os⟩) :
    codeAny (model prog w) A (.call (.builtin "method_descriptor.__get__") ⟨[.builtin "list.__getitem__", .ref a, .type "list"], []⟩) R ⟨h, g, d, t, os⟩ := by
  have hT : (⟨h, g, d, t, os⟩ : Shared).TypeIs (.ref a) "list" := ⟨_, hx, hc⟩
  have hT5 : (⟨h, g, d, t, os⟩ : Shared).TypeIs (.builtin "list.__getitem__") "method_descriptor" := ty_gi
  have f8 := sub_own
  refine codeAny_call_builtin md_slot.plain md_entry (md_slot.check _ _ _ _ _ _ _ _ hT5 (md_args _ _ _) ?_)
  unfold Builtin.«method_descriptor.__get__»
  refine wpAny_bind (wpAny_of_eq (a := (.builtin "list.__getitem__", some (.ref a), some (.type "list"))) (by first | rfl | kernel_rfl) ?_)
  dsimp only
  refine KFB.if_not told ?_
  repeat (any_goals (first | assumption | wp_step))
  exact hq _
theorem md_noset : typeLookup (.type "method_descriptor") "__set__" = pure none := by rw [typeLookup_type, builtinLookup_eq_fast]; kernel_rfl
theorem md_nodel : typeLookup (.type "method_descriptor") "__delete__" = pure none := by rw [typeLookup_type, builtinLookup_eq_fast]; kernel_rfl
theorem gi_entry {tk : Tok} {us : Array Value} {c : Nat} {Q : Fin → Shared → Prop} (hx : h.get? a = some (listOf us c)) (hq : ∀ b, Q (.done (.ret (.ref h.objs.size))) ⟨h.push b, g, d, t, os⟩) :
    wpAny (model prog w) A (Builtin.«object.__getattribute__» ⟨[.ref a, .str "__getitem__" tk], []⟩) Q E ⟨h, g, d, t, os⟩ := by
  have hT : (⟨h, g, d, t, os⟩ : Shared).TypeIs (.ref a) "list" := ⟨_, hx, rfl⟩
  have hT5 : (⟨h, g, d, t, os⟩ : Shared).TypeIs (.builtin "list.__getitem__") "method_descriptor" := ty_gi
  have f4 := F.slot_list_getitem.lookup
  have f5 := ty_gi
  have f6 := md_slot.lookup
  have f7 := md_noset
  have f8 := md_nodel
  repeat (any_goals (first | assumption | wp_step))
  refine md_get hx rfl fun b => ?_
  repeat (any_goals (first | assumption | wp_step))
  exact hq _
theorem gi_call {tk : Tok} {us : Array Value} {c : Nat} {R : Result → Shared → Prop} (hx : h.get? a = some (listOf us c)) (hq : ∀ b, R (.ok (.ret (.ref h.objs.size))) ⟨h.push b, g, d, t, os⟩) :
    codeAny (model prog w) A (.call (.builtin "list.__getattribute__") ⟨[.ref a, .str "__getitem__" tk], []⟩) R ⟨h, g, d, t, os⟩ :=
  codeAny_call_builtin F.slot_list_getattribute.plain F.entry_list_ga (F.slot_list_getattribute.check _ _ _ _ _ _ _ _ (show (⟨h, g, d, t, os⟩ : Shared).TypeIs (.ref a) "list" from ⟨_, hx, rfl⟩) (F.args_list_getattribute_2 _ _) (gi_entry hx hq))
theorem gi_by {tk : Tok} {us : Array Value} {c : Nat} {Q : Value → Shared → Prop} (hx : h.get? a = some (listOf us c)) (hq : ∀ b, Q (.ref h.objs.size) ⟨h.push b, g, d, t, os⟩) :
    wpAny (model prog w) A (getAttrBy (.ref a) (.str "__getitem__" tk) false) Q E ⟨h, g, d, t, os⟩ := by
  have hT : (⟨h, g, d, t, os⟩ : Shared).TypeIs (.ref a) "list" := ⟨_, hx, rfl⟩
  have f2 := F.slot_list_getattribute.lookup
  have f3 := F.slot_list_getattribute.bind (.ref a)
  repeat (any_goals (first | assumption | wp_step))
  refine gi_call hx fun b => ?_
  have hq' := hq b
  repeat (any_goals (first | assumption | wp_step))
theorem hasattr_list {tk : Tok} {us : Array Value} {c : Nat} {Q : Value → Shared → Prop} (hx : h.get? a = some (listOf us c)) (hq : ∀ b, Q (.bool true) ⟨h.push b, g, d, t, os⟩) :
    wpAny (model prog w) A (call (.builtin "hasattr") [.ref a, .str "__getitem__" tk]) Q E ⟨h, g, d, t, os⟩ := by
  have hT : (⟨h, g, d, t, os⟩ : Shared).TypeIs (.ref a) "list" := ⟨_, hx, rfl⟩
  have f1 := F.slot_list_getitem.lookup
  have f2 := F.slot_list_getattribute.lookup
  have f3 := sub_lm
  refine Calls.call_function_entry ha_kind ha_plain ha_entry (ha_args _ _) ?_
  unfold Builtin.«hasattr»
  repeat (any_goals (first | assumption | with_reducible apply gi_by hx | wp_step))
  intro b
  repeat (any_goals (first | assumption | wp_step))
  exact ⟨_, rfl, hq b⟩
end
end Mine
end
section
set_option maxRecDepth 100000
open PySem PySem.W PySem.Calls PyProof.Rows PyProof.V PySem.Spec
namespace Mine
theorem fi_add : fillsInplaceSlot (.type "list") "add" (Operator.Add == .Add) = pure false := by
  unfold fillsInplaceSlot
  show (typeLookup (.type "list") (dunderI "add") >>= fun fi => pure (fi.isSome && !isSeqSlot fi)) = pure false
  rw [F.slot_list_iadd.lookup]
  rw [pure_bind, show isSeqSlot (some (.builtin "list.__iadd__")) = true by decide +kernel]
  rfl
theorem fi_mul : fillsInplaceSlot (.type "list") "mul" (Operator.Mult == .Add) = pure false := by
  unfold fillsInplaceSlot
  show (typeLookup (.type "list") (dunderI "mul") >>= fun fi => pure (fi.isSome && !isSeqSlot fi)) = pure false
  rw [F.slot_list_imul.lookup]
  rw [pure_bind, show isSeqSlot (some (.builtin "list.__imul__")) = true by decide +kernel]
  rfl
theorem si_add : seqSlot? (.type "list") (dunderI "add") = pure (some (.builtin "list.__iadd__"))   := PySem.seqSlot_of F.slot_list_iadd.lookup (by decide +kernel)
theorem si_mul : seqSlot? (.type "list") (dunderI "mul") = pure (some (.builtin "list.__imul__"))   := PySem.seqSlot_of F.slot_list_imul.lookup (by decide +kernel)
section
variable {M : Model} {A : Around} {E : Value → Shared → Prop} {s : Shared}
theorem inplace_add_road {a b : Value} {Q : Value → Shared → Prop} (ha : s.TypeIs a "list") (hb : s.TypeIs b "list")
    (hc : wpAny M A (call (.builtin "list.__iadd__") [a, b]) Q E s) : wpAny M A (inplaceOp .Add a b) Q E s := by
  unfold inplaceOp
  refine wpAny_holding ?_
  refine wpAny_bind (wpAny_typeOf ha (wpAny_bind (wpAny_of_eq fi_add ?_)))
  show wpAny M A (if false = true then _ else _) Q E s
  rw [if_neg Bool.false_ne_true]
  refine wpAny_bind (wpAny_binaryOp1_none (nm := "add") ha hb noFill_list_add ?_)
  refine wpAny_bind (wpAny_of_eq si_add ?_)
  exact wpAny_bind (wpAny_rule hc)
end
section
variable {prog : Program} {w : World} {A : Around} {E : Value → Shared → Prop} {s : Shared} {h₀ : Heap} {L : Addr} {m : Str → Option Value} {news news' : List (Addr × Obj)}
theorem inplace_mul_road {l : Addr} {items : Array Value} {n : Nat} {x : Int} {u : Tok} {Q : Value → Shared → Prop} (hl : s.heap.get? l = some { cls := .type "list", dict := none, data := .seq items n, slots := #[] })
    (hc : wpAny (model prog w) A (call (.builtin "list.__imul__") [.ref l, .int x u]) Q E s) : wpAny (model prog w) A (inplaceOp .Mult (.ref l) (.int x u)) Q E s := by
  have ha : s.TypeIs (.ref l) "list" := ⟨_, hl, rfl⟩
  unfold inplaceOp
  refine wpAny_holding ?_
  refine wpAny_bind (wpAny_typeOf ha (wpAny_bind (wpAny_of_eq fi_mul ?_)))
  show wpAny _ A (if false = true then _ else _) Q E s
  rw [if_neg Bool.false_ne_true]
  refine wpAny_bind (wpAny_binaryOp1_right_declines (nm := "mul") (T := "list") (U := "int") (by decide) ha (typeIs_int s x u) noFill_list_mul F.fills_int_mul F.slot_int_rmul
    (call_meets F.slot_int_rmul (typeIs_int s x u) F.entry_int_rmul (F.args_int_rmul_2 _ _) (int___rmul___int_list x u l items n) ⟨hl, rfl, ?_⟩))
  refine wpAny_bind (wpAny_of_eq si_mul ?_)
  show wpAny _ A (sequenceRepeat _ _ _) Q E s
  unfold sequenceRepeat
  refine wpAny_bind (wpAny_specialOf (typeIs_int s x u) F.slot_int_index.lookup ?_)
  exact wpAny_bind (wpAny_rule hc)
theorem iadd_lists {l b : Addr} {its its2 us : Array Value} {n n2 : Nat} {Q : Value → Shared → Prop} (F : Fr h₀ L s.heap m) (N : News h₀ L s.heap news) (hb : (b, listOf its2 n2) ∈ news) (he : its ++ its2 = us) (hne : its2.size ≠ 0)
    (U : Upd l (listOf its n) (listOf us (n + 1)) news news') (hz : its.size + its2.size ≤ 1000)
    (h : ∀ h', Fr h₀ L h' m → News h₀ L h' news' → Q (.ref l) { s with heap := h' }) : wpAny (model prog w) A (inplaceOp .Add (.ref l) (.ref b)) Q E s := by
  obtain ⟨pre, post, rfl, rfl, a, c⟩ := U.split
  have z := N (l, listOf its n) (List.mem_append.mpr (.inr (.head _)))
  have e20 : sizeLine = 16777216 := by rw [sizeLine_eq]
  refine inplace_add_road ⟨_, z.1, rfl⟩ ⟨_, (N _ hb).1, rfl⟩ (call_meets PySem.F.slot_list_iadd ⟨_, z.1, rfl⟩ PySem.F.entry_list_iadd (PySem.F.args_list_iadd_2 _ _)
    (PySem.AutoSeq1.list___iadd___list_list_0 l its n b its2 n2 ?_ (by omega) (by omega)) ⟨z.1, (N _ hb).1, h _ (F.change (Heap.SameBut.update ..) z.2.1 z.2.2) (kl_turn _ N a c he ?_)⟩)
  · simp only [Builtin.List.listTooLong, Bool.and_eq_true, decide_eq_true_eq, e20]
    omega
  · subst he
    simp only [Array.size_append, ne_eq]
    omega
theorem imul_list2 {l : Addr} {its us : Array Value} {n : Nat} {u : Tok} {Q : Value → Shared → Prop} (F : Fr h₀ L s.heap m) (N : News h₀ L s.heap news) (he : its ++ its = us) (hne : its.size ≠ 0)
    (U : Upd l (listOf its n) (listOf us (n + 1)) news news') (hz : its.size ≤ 1000)
    (h : ∀ h', Fr h₀ L h' m → News h₀ L h' news' → Q (.ref l) { s with heap := h' }) : wpAny (model prog w) A (inplaceOp .Mult (.ref l) (.int 2 u)) Q E s := by
  obtain ⟨pre, post, rfl, rfl, a, c⟩ := U.split
  have z := N (l, listOf its n) (List.mem_append.mpr (.inr (.head _)))
  have e20 : sizeLine = 16777216 := by rw [sizeLine_eq]
  have e2 : (2 : Int).toNat = 2 := rfl
  refine inplace_mul_road z.1 (call_meets PySem.F.slot_list_imul ⟨_, z.1, rfl⟩ PySem.F.entry_list_imul (PySem.F.args_list_imul_2 _ _)
    (PySem.AutoSeq1.list___imul___list_int_5 l its n 2 u (by decide) ?_ (by decide) ?_ ?_ (by omega)) ⟨z.1, h _ (F.change (Heap.SameBut.update ..) z.2.1 z.2.2) (kl_turn _ N a c ?_ ?_)⟩)
  · simp only [Bool.or_eq_true, beq_iff_eq]
    omega
  · rw [e2]; omega
  · rw [e2]
    simp only [Builtin.List.listTooLong, decide_eq_true_eq, e20]
    omega
  · rw [e2]
    simpa using he
  · subst he
    simp only [Array.size_append, ne_eq]
    omega
theorem hasattr_K {l : Addr} {us : Array Value} {c : Nat} {t : Tok} {Q : Value → Shared → Prop} (F : Fr h₀ L s.heap m) (N : News h₀ L s.heap news) (hm : (l, listOf us c) ∈ news)
    (h : ∀ h', Fr h₀ L h' m → News h₀ L h' news → Q (.bool true) { s with heap := h' }) : wpAny (model prog w) A (call (.builtin "hasattr") [.ref l, .str (Str.ofString "__getitem__") t]) Q E s := by
  obtain ⟨hp, g, d, tk, os⟩ := s
  exact hasattr_list (N _ hm).1 fun b => h _ (F.push _) fun p hp => ⟨Heap.get?_push_of_some _ (N p hp).1, (N p hp).2⟩
theorem iadd_K {l b : Addr} {vs ws : List Value} {n n2 : Nat} {Q : Value → Shared → Prop} (F : Fr h₀ L s.heap m) (N : News h₀ L s.heap news) (hb : (b, listOf ws.toArray n2) ∈ news) (hne : ws.length ≠ 0)
    (U : Upd l (listOf vs.toArray n) (listOf (vs ++ ws).toArray (n + 1)) news news') (hz : vs.length + ws.length ≤ 1000)
    (h : ∀ h', Fr h₀ L h' m → News h₀ L h' news' → Q (.ref l) { s with heap := h' }) : wpAny (model prog w) A (inplaceOp .Add (.ref l) (.ref b)) Q E s :=
  iadd_lists F N hb (by simp) (by simpa using hne) U (by simpa using hz) h
theorem imul_K {l : Addr} {vs : List Value} {n : Nat} {u : Tok} {Q : Value → Shared → Prop} (F : Fr h₀ L s.heap m) (N : News h₀ L s.heap news) (hne : vs.length ≠ 0)
    (U : Upd l (listOf vs.toArray n) (listOf (vs ++ vs).toArray (n + 1)) news news') (hz : vs.length ≤ 1000)
    (h : ∀ h', Fr h₀ L h' m → News h₀ L h' news' → Q (.ref l) { s with heap := h' }) : wpAny (model prog w) A (inplaceOp .Mult (.ref l) (.int 2 u)) Q E s :=
  imul_list2 F N (by simp) (by simpa using hne) U (by simpa using hz) h
end
end Mine
end
section
open PySem PySem.W PyProof.Rows
set_option maxRecDepth 100000
set_option maxHeartbeats 8000000
namespace Mine
open_top hd for PySem.Challenge.rw_xc0038_01
def lawStmt : Stmt := PySem.Challenge.pw_xc0038_01.main.body.getLast?.getD default
def lawStmts : List Stmt := match lawStmt with | .FunctionDef _ _ b _ _ _ _ _ _ _ => b | _ => []
def lawScope : Scope := match lawStmt with | .FunctionDef _ _ _ _ _ _ sc _ _ _ => sc | _ => default
def turnBody : List Stmt := match lawStmts with | [_, .For _ _ b _ _, _] => b | _ => []
abbrev storedN : List Str := [Str.ofString "one", Str.ofString "other", Str.ofString "small", Str.ofString "power", Str.ofString "turn", Str.ofString "whole", Str.ofString "rest", Str.ofString "low", Str.ofString "high", Str.ofString "order", Str.ofString "part", Str.ofString "held"]
abbrev lawEnv (L fa : Addr) : Env := envOf (Str.ofString "law") lawScope L fa (.ref 174)
local macro_rules | `(tactic| walk_at "subscriptTail Name Name ref int") => `(tactic| (k_here; (with_reducible show wpAny _ _ (subscriptTail _ _ (Value.ref _) (Value.int _ _)) _ _ _); (with_unfolding_all refine' item_any ?k1 ?k2 ?k3 ?k7 ?k4 ?k5 ?_ ?k6; (case k1 => is_list); (case k2 => l_ints); (case k3 => l_idx); (case k7 => l_idx); (case k4 => l_idx); (case k5 => l_idx); (case k6 => with_unfolding_all rfl); k_whole); intro _ _))
local macro_rules | `(tactic| walk_at "subscriptTail Name BinOp ref int") => `(tactic| (k_here; (with_reducible show wpAny _ _ (subscriptTail _ _ (Value.ref _) (Value.int _ _)) _ _ _); (with_unfolding_all refine' item_any ?k1 ?k2 ?k3 ?k7 ?k4 ?k5 ?_ ?k6; (case k1 => is_list); (case k2 => l_ints); (case k3 => l_idx); (case k7 => l_idx); (case k4 => l_idx); (case k5 => l_idx); (case k6 => with_unfolding_all rfl); k_whole); intro _ _))
local macro_rules | `(tactic| walk_at "subscriptTail List cons Name ref int") => `(tactic| (k_here; (with_reducible show wpAny _ _ (subscriptTail _ _ (Value.ref _) (Value.int _ _)) _ _ _); (with_unfolding_all refine' item_pow ?k1 ?k2 ?k4 ?k5 ?_ ?k6; (case k1 => is_list); (case k2 => l_ints); (case k4 => assumption); (case k5 => assumption); (case k6 => with_unfolding_all rfl); k_whole); intro _))
local macro_rules | `(tactic| walk_at "binaryOp Pow int int") => `(tactic| with_reducible refine pow40 ?_)
local macro_rules | `(tactic| walk_at "binaryOp Pow int int") => `(tactic| with_reducible refine pow39 ?_)
local macro_rules | `(tactic| walk_at "binaryOp Mult int int") => `(tactic| (with_reducible refine mul_pow2 ?kA ?kB ?_; (case kA => assumption); (case kB => assumption)))
local macro_rules | `(tactic| walk_at "binaryOp Mult int int") => `(tactic| (refine mul_pow (by assumption) (by assumption) (by assumption) (by omega) ?_))
local macro_rules | `(tactic| walk_at "binaryOp Mult int int") => `(tactic| with_reducible refine mul39 ?_)
local macro_rules | `(tactic| walk_at "binaryOp Mod int int") => `(tactic| with_reducible refine mod40 ?_)
local macro_rules | `(tactic| walk_at "binaryOp Mod int int") => `(tactic| (with_reducible refine mod9 ?_; intro _ _ hLo hHi))
local macro_rules | `(tactic| walk_at "binaryOp Mod int int") => `(tactic| (with_reducible refine mod64 ?_; intro _ _ hLo hHi))
local macro_rules | `(tactic| walk_at "binaryOp Mod int int") => `(tactic| (with_reducible refine mod_part ?_; intro _ _ hLo hHi))
local macro_rules | `(tactic| walk_at "binaryOp Sub int int") => `(tactic| (with_reducible refine sub_bound ?_; intro _ _ hLo hHi))
local macro_rules | `(tactic| walk_at "binaryOp LShift int int") => `(tactic| (refine lsh_bit (by exact par_range _) (by omega) (by omega) ?_))
local macro_rules | `(tactic| walk_at "binaryOp LShift int int") => `(tactic| (refine lsh_bit (by exact max_range _ _) (by omega) (by omega) ?_))
local macro_rules | `(tactic| walk_at "binaryOp LShift int int") => `(tactic| (refine lsh_bit (by exact min_range _ _) (by omega) (by omega) ?_))
local macro_rules | `(tactic| walk_at "binaryOp LShift int int") => `(tactic| with_reducible refine lsh64 ?_)
local macro_rules | `(tactic| walk_at "inplaceOp Pow int int") => `(tactic| (refine ipow_one (by assumption) (by assumption) (by assumption) (by assumption) ?_))
local macro_rules | `(tactic| walk_at "inplaceOp FloorDiv int int") => `(tactic| (with_reducible refine ifdiv_small ?kA ?kB ?_; (case kA => assumption); (case kB => assumption)))
local macro_rules | `(tactic| walk_at "inplaceOp FloorDiv int int") => `(tactic| (with_reducible refine ifdiv_pow2 ?kA ?kB ?_; (case kA => assumption); (case kB => assumption)))
local macro_rules | `(tactic| walk_at "inplaceOp Mod int int") => `(tactic| (refine imod_small (by assumption) ?_))
local macro_rules | `(tactic| walk_at "inplaceOp LShift int int") => `(tactic| (refine ishl_one (by first | assumption | decide) (by first | assumption | decide) (by assumption) (by assumption) ?_))
local macro_rules | `(tactic| walk_at "inplaceOp RShift int int") => `(tactic| (refine ishr_one (by assumption) ?_))
local macro_rules | `(tactic| walk_at "call builtin:list.count") => `(tactic| (k_here; (with_unfolding_all refine' count_order ?k1 ?_; (case k1 => is_list); k_whole)))
local macro_rules | `(tactic| walk_at "eval Lambda") => `(tactic| (k_here; k_dflt (refine' kla_eval ?d0 ?_; (case d0 => exact rfl)); (k_dflt (refine' lam_any ?F ?N ?T ?C ?cd ?U ?S ?cl ?q ?p1 ?p2 ?_; (case F => k_asm); (case N => k_asm); (case T => k_asm); (case cd => exact rfl); (case C => first | kn_code | assumption); (case U => k_updF); (case S => (repeat (first | assumption | refine TabSt.cons ?_))); (case cl => exact rfl); (case q => with_unfolding_all rfl); (case p1 => rfl); (case p2 => rfl); k_whole); intro f' c' oc' vs' t' ct' h' tk' F' N' d1' d2' l1 l2; (try dsimp only at N'); (try k_lt l1); (try k_lt2 l2))))
local macro_rules | `(tactic| walk_at "binaryOp Div int int") => `(tactic| (with_reducible refine div4_step ?kA ?kB ?_; (case kA => assumption); (case kB => assumption); intro _ _ hPart))
local macro_rules | `(tactic| walk_at "binaryOp Div int int") => `(tactic| (with_reducible refine div8_step ?kA ?kB ?_; (case kA => assumption); (case kB => assumption); intro _ _ hPart))
local macro_rules | `(tactic| walk_at "binaryOp Mult float int") => `(tactic| (refine mul8_step (by assumption) ?_; intro _ _ hPart))
local macro_rules | `(tactic| walk_at "compareOp NotEq float int") => `(tactic| (refine ne_part (by assumption) ?_))
local macro_rules | `(tactic| walk_at "call builtin:hasattr") => `(tactic| (k_here; k_dflt (refine' hasattr_K ?F ?N ?b ?_; (case F => k_asm); (case N => k_asm); (case b => k_mem)); intro h' F' N'; (try k_sweep)))
local macro_rules | `(tactic| walk_at "inplaceOp Add ref ref") => `(tactic| (k_here; k_dflt (refine' iadd_K ?F ?N ?b ?ne ?U ?z ?_; (case F => k_asm); (case N => k_asm); (case U => k_upd); (case b => k_mem); (case ne => exact Nat.succ_ne_zero _); (case z => (simp only [List.length_append, List.length_cons, List.length_nil]; omega))); intro h' F' N'; (try k_sweep)))
local macro_rules | `(tactic| walk_at "inplaceOp Mult ref int") => `(tactic| (k_here; k_dflt (refine' imul_K ?F ?N ?ne ?U ?z ?_; (case F => k_asm); (case N => k_asm); (case U => k_upd); (case ne => (simp only [List.length_append, List.length_cons, List.length_nil]; omega)); (case z => (simp only [List.length_append, List.length_cons, List.length_nil]; omega))); intro h' F' N'; (try k_sweep)))
local macro_rules | `(tactic| walk_at "InvEndN") => `(tactic| k_dflt kst_close)
local macro_rules | `(tactic| walk_at "my clean") => `(tactic| (rename Fr _ _ _ _ => zF; rename News _ _ _ _ => zN; rename Top _ _ _ _ _ _ => zT; rename Frag.In _ _ => zK; revert zF zN zT zK; (repeat (rename Fr _ _ _ _ => zx; clear zx)); (repeat (rename News _ _ _ _ => zx; clear zx)); (repeat (rename Top _ _ _ _ _ _ => zx; clear zx)); (repeat (rename Frag.In _ _ => zx; clear zx)); intro zF zN zT zK))
local macro_rules | `(tactic| walk_at "my fresh") => `(tactic| ((rename Below _ _ [] _ => zB); revert zB; (repeat (rename Below _ _ _ _ => zx; clear zx)); intro zB; (walk_at "my clean"); (rename PySem.World => zW); (rename PySem.Shared => zS); revert zS; (rename PySem.Shared => zU); revert zU; revert zW; intros))
local macro_rules | `(tactic| walk_at "my step") => `(tactic| first | (with_reducible refine ite_no (by decide) ?_) | (with_reducible refine ite_yes (by decide) ?_) | ((fail_if_success (with_reducible refine ite_no ?_ ?_)); first | (k_unfold; (try dsimp only)) | (k_end; kc_close) | walk1 | (dsimp only; walk1) | (leave1; (try dsimp only))))
local macro_rules | `(tactic| walk_at "my go") => `(tactic| repeat' (walk_at "my step"))
local macro_rules | `(tactic| walk_at "my go pyIter") => `(tactic| repeat' ((fail_if_success (with_reducible show wpAny _ _ (pyIter _) _ _ _)); walk_at "my step"))
local macro_rules | `(tactic| walk_at "my go If") => `(tactic| repeat' ((fail_if_success (with_reducible show wpAny _ _ (exec (PySem.Stmt.If _ _ _ _) _) _ _ _)); walk_at "my step"))
local macro_rules | `(tactic| walk_at "my go For") => `(tactic| repeat' ((fail_if_success (with_reducible show wpAny _ _ (exec (PySem.Stmt.For _ _ _ _ _) _) _ _ _)); walk_at "my step"))
local macro_rules | `(tactic| walk_at "my go Assign") => `(tactic| repeat' ((fail_if_success (with_reducible show wpAny _ _ (exec (PySem.Stmt.Assign _ _ _) _) _ _ _)); walk_at "my step"))
local macro_rules | `(tactic| walk_at "my go next") => `(tactic| repeat' ((fail_if_success (with_reducible show wpAny _ _ (execs (_ :: _) (lawEnv _ _)) _ _ _)); walk_at "my step"))
section
variable {w : World} {p : Program} {loose : List Str} {mean : ExcName → Option Value} {mg mb : Str → Option Value} {h₀ : Heap} {L fa scr l : Addr} {svs vs : List Value} {sns ns : List Int} {m₀ mB : Str → Option Value} {E : Value → Shared → Prop} {Q : Flow → Shared → Prop} {s : Shared} {h : Heap} {tk c : Nat} {own : List (Addr × Obj)} {k : Int} {t : Tok}
theorem t19 (X : (Mine.hd.heap_39 w.params).In h₀) (T : Top p loose mean mg mb h₀) (B : Below callerA h₀ [] h₀) (hC : CodeHd h₀ 174 170) (hS : h₀.IsList scr svs.toArray) (hSI : IntsAre svs sns) (hSl : sns.length ≤ 63) (kMark : KstMark)
    (hE : PassesOwn (model PySem.Challenge.rw_xc0038_01.row.prog w) (callerA.deeper (lawEnv L fa)) (lawEnv L fa) E) (hI : IntsAre vs ns) (hLen : vs.length = ns.length) (hL : ns.length ≤ 30) (hne : l ≠ 170) (hOff : OwnOff own [l, 170])
    (hM : ∀ z, z ≠ Str.ofString "k" → z ≠ Str.ofString "row" → storedN.contains z = false → m₀ z = mB z)
    {one : Int} {t1 : Tok} {c' : Addr} {oc : Obj} {vs' : Array Value} {tq : Tok} (d1 : oc.data = .fields vs') (d2 : vs'[1]? = some (.str lamQual tq))
    (F : Fr h₀ L h (fun y => if y = Str.ofString "one" then some (.int one t1) else if y = Str.ofString "k" then some (.int k t) else if y = Str.ofString "row" then some (.ref l) else m₀ y)) (N : News h₀ L h ((c', oc) :: (l, listOf vs.toArray c) :: (170, tabObj #[rawInt 84, rawInt 53, .ref c']) :: own)) :
    wpAny (model PySem.Challenge.rw_xc0038_01.row.prog w) (callerA.deeper (lawEnv L fa)) (execs (turnBody.drop 19) (lawEnv L fa)) (RowPost h₀ L storedN mB own s Q) E { s with heap := h, toks := tk } := by
  revert X
  k_fill
  intro X
  walk_at "my go"
  rename Fr _ _ _ _ => zF
  rename News _ _ _ _ => zN
  rename IntsAre _ (List.take _ _) => zI
  refine' row_end zF zN zI ?hl ?h170 ?hc ?d1 ?d2 ?hq ?hown take30 ?hrow ?hM
  case hl => k_mem
  case h170 => k_mem
  case hc => k_mem
  case d1 => assumption
  case d2 => assumption
  case hq => rfl
  case hown =>
    intro p hp
    repeat (first | exact hp | refine List.Mem.tail _ ?_)
  case hrow => rfl
  case hM =>
    intro z h1 h2 h3
    have e := hM z h1 h2 h3
    simp only [storedN, List.contains_cons, List.contains_nil, Bool.or_false, Bool.or_eq_false_iff, beq_eq_false_iff_ne, ne_eq] at h3
    simp [h1, h2, h3, e]
theorem t16 (X : (Mine.hd.heap_39 w.params).In h₀) (T : Top p loose mean mg mb h₀) (B : Below callerA h₀ [] h₀) (hC : CodeHd h₀ 174 170) (hS : h₀.IsList scr svs.toArray) (hSI : IntsAre svs sns) (hSl : sns.length ≤ 63) (kMark : KstMark)
    (hE : PassesOwn (model PySem.Challenge.rw_xc0038_01.row.prog w) (callerA.deeper (lawEnv L fa)) (lawEnv L fa) E) (hI : IntsAre vs ns) (hLen : vs.length = ns.length) (hL : ns.length ≤ 30) (hne : l ≠ 170) (hOff : OwnOff own [l, 170])
    (hM : ∀ z, z ≠ Str.ofString "k" → z ≠ Str.ofString "row" → storedN.contains z = false → m₀ z = mB z)
    {one other : Int} {t1 t2 : Tok} (hLo1 : -5000000000000000000000000000000000000000 ≤ one) (hHi1 : one < 5000000000000000000000000000000000000000) (hLo2 : -5000000000000000000000000000000000000000 ≤ other) (hHi2 : other < 5000000000000000000000000000000000000000) {c' : Addr} {oc : Obj} {vs' : Array Value} {tq : Tok} (d1 : oc.data = .fields vs') (d2 : vs'[1]? = some (.str lamQual tq))
    (F : Fr h₀ L h (fun y => if y = Str.ofString "one" then some (.int one t1) else if y = Str.ofString "other" then some (.int other t2) else if y = Str.ofString "k" then some (.int k t) else if y = Str.ofString "row" then some (.ref l) else m₀ y)) (N : News h₀ L h ((c', oc) :: (l, listOf vs.toArray c) :: (170, tabObj #[rawInt 84, rawInt 53, .ref c']) :: own)) :
    wpAny (model PySem.Challenge.rw_xc0038_01.row.prog w) (callerA.deeper (lawEnv L fa)) (execs (turnBody.drop 16) (lawEnv L fa)) (RowPost h₀ L storedN mB own s Q) E { s with heap := h, toks := tk } := by
  revert X
  k_fill
  intro X
  walk_at "my go"
  refine ite_no rows_no ?_
  walk_at "my go"
  refine ite_no rows2_no ?_
  walk_at "my go next"
  rename Fr _ _ _ _ => zF
  rename News _ _ _ _ => zN
  have f0 := fr_name (n := Str.ofString "row") zF rfl
  have f1 := fr_name (n := Str.ofString "k") f0 rfl
  have f2 := fr_name (n := Str.ofString "one") f1 rfl
  have zM : News h₀ L _ ((c', oc) :: (l, listOf vs.toArray c) :: (170, tabObj #[rawInt 84, rawInt 53, .ref c']) :: own) := fun p hp => zN p (by repeat (first | exact hp | refine List.Mem.tail _ ?_))
  refine' t19 X T B hC hS hSI hSl kMark hE (by assumption) hLen hL hne hOff ?hM d1 d2 f2 zM
  case hM =>
    intro z h1 h2 h3
    have e := hM z h1 h2 h3
    simp only [storedN, List.contains_cons, List.contains_nil, Bool.or_false, Bool.or_eq_false_iff, beq_eq_false_iff_ne, ne_eq] at h3
    simp [h1, h2, h3, e]
theorem t14 (X : (Mine.hd.heap_39 w.params).In h₀) (T : Top p loose mean mg mb h₀) (B : Below callerA h₀ [] h₀) (hC : CodeHd h₀ 174 170) (hS : h₀.IsList scr svs.toArray) (hSI : IntsAre svs sns) (hSl : sns.length ≤ 63) (kMark : KstMark)
    (hE : PassesOwn (model PySem.Challenge.rw_xc0038_01.row.prog w) (callerA.deeper (lawEnv L fa)) (lawEnv L fa) E) (hI : IntsAre vs ns) (hLen : vs.length = ns.length) (hL : ns.length ≤ 30) (hne : l ≠ 170) (hOff : OwnOff own [l, 170])
    (hM : ∀ z, z ≠ Str.ofString "k" → z ≠ Str.ofString "row" → storedN.contains z = false → m₀ z = mB z)
    {one other : Int} {t1 t2 : Tok} (hLo1 : -5000000000000000000000000000000000000000 ≤ one) (hHi1 : one < 5000000000000000000000000000000000000000) (hLo2 : -5000000000000000000000000000000000000000 ≤ other) (hHi2 : other < 5000000000000000000000000000000000000000) {c' : Addr} {oc : Obj} {vs' : Array Value} {tq : Tok} (d1 : oc.data = .fields vs') (d2 : vs'[1]? = some (.str lamQual tq))
    (F : Fr h₀ L h (fun y => if y = Str.ofString "one" then some (.int one t1) else if y = Str.ofString "other" then some (.int other t2) else if y = Str.ofString "k" then some (.int k t) else if y = Str.ofString "row" then some (.ref l) else m₀ y)) (N : News h₀ L h ((c', oc) :: (l, listOf vs.toArray c) :: (170, tabObj #[rawInt 84, rawInt 53, .ref c']) :: own)) :
    wpAny (model PySem.Challenge.rw_xc0038_01.row.prog w) (callerA.deeper (lawEnv L fa)) (execs (turnBody.drop 14) (lawEnv L fa)) (RowPost h₀ L storedN mB own s Q) E { s with heap := h, toks := tk } := by
  revert X
  k_fill
  intro X
  walk_at "my step"
  walk_at "my go next"
  walk_at "my step"
  walk_at "my go next"
  rename Fr _ _ _ _ => zF
  rename News _ _ _ _ => zN
  have f0 := fr_name (n := Str.ofString "row") zF rfl
  have f1 := fr_name (n := Str.ofString "k") f0 rfl
  have f2 := fr_name (n := Str.ofString "other") f1 rfl
  have f3 := fr_name (n := Str.ofString "one") f2 rfl
  refine' t16 X T B hC hS hSI hSl kMark hE (by assumption) hLen hL hne hOff ?hM hLo1 hHi1 hLo2 hHi2 d1 d2 f3 zN
  case hM =>
    intro z h1 h2 h3
    have e := hM z h1 h2 h3
    simp only [storedN, List.contains_cons, List.contains_nil, Bool.or_false, Bool.or_eq_false_iff, beq_eq_false_iff_ne, ne_eq] at h3
    simp [h1, h2, h3, e]
theorem t11 (X : (Mine.hd.heap_39 w.params).In h₀) (T : Top p loose mean mg mb h₀) (B : Below callerA h₀ [] h₀) (hC : CodeHd h₀ 174 170) (hS : h₀.IsList scr svs.toArray) (hSI : IntsAre svs sns) (hSl : sns.length ≤ 63) (kMark : KstMark)
    (hE : PassesOwn (model PySem.Challenge.rw_xc0038_01.row.prog w) (callerA.deeper (lawEnv L fa)) (lawEnv L fa) E) (hI : IntsAre vs ns) (hLen : vs.length = ns.length) (hL : ns.length ≤ 30) (hne : l ≠ 170) (hOff : OwnOff own [l, 170])
    (hM : ∀ z, z ≠ Str.ofString "k" → z ≠ Str.ofString "row" → storedN.contains z = false → m₀ z = mB z)
    {one other : Int} {t1 t2 : Tok} (hLo1 : -5000000000000000000000000000000000000000 ≤ one) (hHi1 : one < 5000000000000000000000000000000000000000) (hLo2 : -5000000000000000000000000000000000000000 ≤ other) (hHi2 : other < 5000000000000000000000000000000000000000) {c' : Addr} {oc : Obj} {vs' : Array Value} {tq : Tok} (d1 : oc.data = .fields vs') (d2 : vs'[1]? = some (.str lamQual tq))
    (F : Fr h₀ L h (fun y => if y = Str.ofString "one" then some (.int one t1) else if y = Str.ofString "other" then some (.int other t2) else if y = Str.ofString "k" then some (.int k t) else if y = Str.ofString "row" then some (.ref l) else m₀ y)) (N : News h₀ L h ((c', oc) :: (l, listOf vs.toArray c) :: (170, tabObj #[rawInt 84, rawInt 53, .ref c']) :: own)) :
    wpAny (model PySem.Challenge.rw_xc0038_01.row.prog w) (callerA.deeper (lawEnv L fa)) (execs (turnBody.drop 11) (lawEnv L fa)) (RowPost h₀ L storedN mB own s Q) E { s with heap := h, toks := tk } := by
  revert X
  k_fill
  intro X
  walk_at "my go"
  refine ite_no le_is ?_
  walk_at "my go"
  refine ite_no le_is ?_
  walk_at "my go"
  refine ite_no ne_is ?_
  walk_at "my go"
  refine ite_no lt_is ?_
  walk_at "my go"
  refine ite_bool ?_
  walk_at "my go"
  refine ite_no is_not_no ?_
  walk_at "my go"
  refine ite_bool ?_
  walk_at "my go"
  refine ite_no isnt_no ?_
  walk_at "my go next"
  rename Fr _ _ _ _ => zF
  rename News _ _ _ _ => zN
  have f0 := fr_name (n := Str.ofString "row") zF rfl
  have f1 := fr_name (n := Str.ofString "k") f0 rfl
  have f2 := fr_name (n := Str.ofString "other") f1 rfl
  have f3 := fr_name (n := Str.ofString "one") f2 rfl
  replace zN := news_drop 1 zN
  simp only [List.drop_succ_cons, List.drop_zero] at zN
  refine' t14 X T B hC hS hSI hSl kMark hE (by assumption) hLen hL hne hOff ?hM hLo1 hHi1 hLo2 hHi2 d1 d2 f3 zN
  case hM =>
    intro z h1 h2 h3
    have e := hM z h1 h2 h3
    simp only [storedN, List.contains_cons, List.contains_nil, Bool.or_false, Bool.or_eq_false_iff, beq_eq_false_iff_ne, ne_eq] at h3
    simp [h1, h2, h3, e]
theorem t10 (X : (Mine.hd.heap_39 w.params).In h₀) (T : Top p loose mean mg mb h₀) (B : Below callerA h₀ [] h₀) (hC : CodeHd h₀ 174 170) (hS : h₀.IsList scr svs.toArray) (hSI : IntsAre svs sns) (hSl : sns.length ≤ 63) (kMark : KstMark)
    (hE : PassesOwn (model PySem.Challenge.rw_xc0038_01.row.prog w) (callerA.deeper (lawEnv L fa)) (lawEnv L fa) E) (hI : IntsAre vs ns) (hLen : vs.length = ns.length) (hL : ns.length ≤ 30) (hne : l ≠ 170) (hOff : OwnOff own [l, 170])
    (hM : ∀ z, z ≠ Str.ofString "k" → z ≠ Str.ofString "row" → storedN.contains z = false → m₀ z = mB z)
    {one other : Int} {t1 t2 : Tok} (hLo1 : -5000000000000000000000000000000000000000 ≤ one) (hHi1 : one < 5000000000000000000000000000000000000000) (hLo2 : -5000000000000000000000000000000000000000 ≤ other) (hHi2 : other < 5000000000000000000000000000000000000000) {low high : Int} {t4 t5 : Tok} (hl0 : 0 ≤ low) (hl1 : low < 18446744073709551616) (hh0 : 0 ≤ high) (hh1 : high < 18446744073709551616) {ps : Array Value} (hTab : TabSt ps own)
    (F : Fr h₀ L h (fun y => if y = Str.ofString "low" then some (.int low t4) else if y = Str.ofString "high" then some (.int high t5) else if y = Str.ofString "one" then some (.int one t1) else if y = Str.ofString "other" then some (.int other t2) else if y = Str.ofString "k" then some (.int k t) else if y = Str.ofString "row" then some (.ref l) else m₀ y)) (N : News h₀ L h ((l, listOf vs.toArray c) :: (170, tabObj ps) :: own)) :
    wpAny (model PySem.Challenge.rw_xc0038_01.row.prog w) (callerA.deeper (lawEnv L fa)) (execs (turnBody.drop 10) (lawEnv L fa)) (RowPost h₀ L storedN mB own s Q) E { s with heap := h, toks := tk } := by
  revert X
  k_fill
  intro X
  k_with_none
  k_with "pyIter ref" => k_state_given ["one", "other"] (fun one other pre found => found = (((one.toNat ^^^ other.toNat) % 2 ^ pre.length : Nat) : Int)) "found"
  k_with "state" => exact xor_start
  k_with "state" => exact xor_step (by assumption) (by assumption) (by assumption) (by assumption)
  walk_at "my go"
  refine ite_no (xor_no (by assumption) (by assumption) (by assumption) (by assumption) (by assumption)) ?_
  walk_at "my go"
  refine ite_no xor_back_no ?_
  walk_at "my go next"
  rename Fr _ _ _ _ => zF
  rename News _ _ _ _ => zN
  have f0 := fr_name (n := Str.ofString "row") zF rfl
  have f1 := fr_name (n := Str.ofString "k") f0 rfl
  have f2 := fr_name (n := Str.ofString "other") f1 rfl
  have f3 := fr_name (n := Str.ofString "one") f2 rfl
  replace zN := news_drop 1 zN
  simp only [List.drop_succ_cons, List.drop_zero] at zN
  refine' t11 X T B hC hS hSI hSl kMark hE (by assumption) hLen hL hne hOff ?hM hLo1 hHi1 hLo2 hHi2 (by assumption) (by assumption) f3 zN
  case hM =>
    intro z h1 h2 h3
    have e := hM z h1 h2 h3
    simp only [storedN, List.contains_cons, List.contains_nil, Bool.or_false, Bool.or_eq_false_iff, beq_eq_false_iff_ne, ne_eq] at h3
    simp [h1, h2, h3, e]
theorem t9 (X : (Mine.hd.heap_39 w.params).In h₀) (T : Top p loose mean mg mb h₀) (B : Below callerA h₀ [] h₀) (hC : CodeHd h₀ 174 170) (hS : h₀.IsList scr svs.toArray) (hSI : IntsAre svs sns) (hSl : sns.length ≤ 63) (kMark : KstMark)
    (hE : PassesOwn (model PySem.Challenge.rw_xc0038_01.row.prog w) (callerA.deeper (lawEnv L fa)) (lawEnv L fa) E) (hI : IntsAre vs ns) (hLen : vs.length = ns.length) (hL : ns.length ≤ 30) (hne : l ≠ 170) (hOff : OwnOff own [l, 170])
    (hM : ∀ z, z ≠ Str.ofString "k" → z ≠ Str.ofString "row" → storedN.contains z = false → m₀ z = mB z)
    {one other : Int} {t1 t2 : Tok} (hLo1 : -5000000000000000000000000000000000000000 ≤ one) (hHi1 : one < 5000000000000000000000000000000000000000) (hLo2 : -5000000000000000000000000000000000000000 ≤ other) (hHi2 : other < 5000000000000000000000000000000000000000) {low high : Int} {t4 t5 : Tok} (hl0 : 0 ≤ low) (hl1 : low < 18446744073709551616) (hh0 : 0 ≤ high) (hh1 : high < 18446744073709551616) {ps : Array Value} (hTab : TabSt ps own)
    (F : Fr h₀ L h (fun y => if y = Str.ofString "low" then some (.int low t4) else if y = Str.ofString "high" then some (.int high t5) else if y = Str.ofString "one" then some (.int one t1) else if y = Str.ofString "other" then some (.int other t2) else if y = Str.ofString "k" then some (.int k t) else if y = Str.ofString "row" then some (.ref l) else m₀ y)) (N : News h₀ L h ((l, listOf vs.toArray c) :: (170, tabObj ps) :: own)) :
    wpAny (model PySem.Challenge.rw_xc0038_01.row.prog w) (callerA.deeper (lawEnv L fa)) (execs (turnBody.drop 9) (lawEnv L fa)) (RowPost h₀ L storedN mB own s Q) E { s with heap := h, toks := tk } := by
  revert X
  k_fill
  intro X
  k_with_none
  k_with "pyIter ref" => k_state_given ["one", "other"] (fun one other pre found => found = (((one.toNat &&& other.toNat) % 2 ^ pre.length : Nat) : Int)) "found"
  k_with "state" => exact and_start
  k_with "state" => exact and_step (by assumption) (by assumption) (by assumption) (by assumption)
  walk_at "my go"
  refine ite_no (and_no (by assumption) (by assumption) (by assumption) (by assumption)) ?_
  k_with_none
  k_with "pyIter ref" => k_state_given ["one", "other"] (fun one other pre found => found = (((one.toNat ||| other.toNat) % 2 ^ pre.length : Nat) : Int)) "found"
  k_with "state" => exact or_start
  k_with "state" => exact or_step (by assumption) (by assumption) (by assumption) (by assumption) rfl
  walk_at "my go"
  refine ite_no (or_no (by assumption) (by assumption) (by assumption) (by assumption) (by assumption)) ?_
  walk_at "my go next"
  rename Fr _ _ _ _ => zF
  rename News _ _ _ _ => zN
  have f0 := fr_name (n := Str.ofString "row") zF rfl
  have f1 := fr_name (n := Str.ofString "k") f0 rfl
  have f2 := fr_name (n := Str.ofString "other") f1 rfl
  have f3 := fr_name (n := Str.ofString "one") f2 rfl
  have f4 := fr_name (n := Str.ofString "high") f3 rfl
  have f5 := fr_name (n := Str.ofString "low") f4 rfl
  refine' t10 X T B hC hS hSI hSl kMark hE (by assumption) hLen hL hne hOff ?hM hLo1 hHi1 hLo2 hHi2 hl0 hl1 hh0 hh1 hTab f5 zN
  case hM =>
    intro z h1 h2 h3
    have e := hM z h1 h2 h3
    simp only [storedN, List.contains_cons, List.contains_nil, Bool.or_false, Bool.or_eq_false_iff, beq_eq_false_iff_ne, ne_eq] at h3
    simp [h1, h2, h3, e]
theorem t5 (X : (Mine.hd.heap_39 w.params).In h₀) (T : Top p loose mean mg mb h₀) (B : Below callerA h₀ [] h₀) (hC : CodeHd h₀ 174 170) (hS : h₀.IsList scr svs.toArray) (hSI : IntsAre svs sns) (hSl : sns.length ≤ 63) (kMark : KstMark)
    (hE : PassesOwn (model PySem.Challenge.rw_xc0038_01.row.prog w) (callerA.deeper (lawEnv L fa)) (lawEnv L fa) E) (hI : IntsAre vs ns) (hLen : vs.length = ns.length) (hL : ns.length ≤ 30) (hne : l ≠ 170) (hOff : OwnOff own [l, 170])
    (hM : ∀ z, z ≠ Str.ofString "k" → z ≠ Str.ofString "row" → storedN.contains z = false → m₀ z = mB z)
    {one other : Int} {t1 t2 : Tok} (hLo1 : -5000000000000000000000000000000000000000 ≤ one) (hHi1 : one < 5000000000000000000000000000000000000000) (hLo2 : -5000000000000000000000000000000000000000 ≤ other) (hHi2 : other < 5000000000000000000000000000000000000000) {small : Int} {t3 : Tok} (hS0 : 0 ≤ small) (hS8 : small ≤ 8) {pw : Int} {t6 : Tok} (hP : pw = one ^ (rangeKs 0 (small - 0).toNat).length) {ps : Array Value} (hTab : TabSt ps own)
    (F : Fr h₀ L h (fun y => if y = Str.ofString "power" then some (.int pw t6) else if y = Str.ofString "small" then some (.int small t3) else if y = Str.ofString "one" then some (.int one t1) else if y = Str.ofString "other" then some (.int other t2) else if y = Str.ofString "k" then some (.int k t) else if y = Str.ofString "row" then some (.ref l) else m₀ y)) (N : News h₀ L h ((l, listOf vs.toArray c) :: (170, tabObj ps) :: own)) :
    wpAny (model PySem.Challenge.rw_xc0038_01.row.prog w) (callerA.deeper (lawEnv L fa)) (execs (turnBody.drop 5) (lawEnv L fa)) (RowPost h₀ L storedN mB own s Q) E { s with heap := h, toks := tk } := by
  revert X
  k_fill
  intro X
  walk_at "my go"
  refine ite_no (pow_done (by assumption)) ?_
  walk_at "my go"
  refine ite_no quot_no ?_
  walk_at "my go"
  refine ite_yes (rest_lo (by assumption)) ?_
  walk_at "my go"
  refine ite_no (rest_hi (by assumption)) ?_
  walk_at "my go"
  refine ite_no bne_self ?_
  walk_at "my go"
  refine ite_no shr_no ?_
  walk_at "my go next"
  walk_at "my step"
  walk_at "my go next"
  rename Fr _ _ _ _ => zF
  rename News _ _ _ _ => zN
  have f0 := fr_name (n := Str.ofString "row") zF rfl
  have f1 := fr_name (n := Str.ofString "k") f0 rfl
  have f2 := fr_name (n := Str.ofString "other") f1 rfl
  have f3 := fr_name (n := Str.ofString "one") f2 rfl
  have f4 := fr_name (n := Str.ofString "high") f3 rfl
  have f5 := fr_name (n := Str.ofString "low") f4 rfl
  replace zN := news_drop 3 zN
  simp only [List.drop_succ_cons, List.drop_zero] at zN
  refine' t9 X T B hC hS hSI hSl kMark hE (by assumption) hLen hL hne hOff ?hM hLo1 hHi1 hLo2 hHi2 (by assumption) (by assumption) (by assumption) (by assumption) hTab f5 zN
  case hM =>
    intro z h1 h2 h3
    have e := hM z h1 h2 h3
    simp only [storedN, List.contains_cons, List.contains_nil, Bool.or_false, Bool.or_eq_false_iff, beq_eq_false_iff_ne, ne_eq] at h3
    simp [h1, h2, h3, e]
theorem t2 (X : (Mine.hd.heap_39 w.params).In h₀) (T : Top p loose mean mg mb h₀) (B : Below callerA h₀ [] h₀) (hC : CodeHd h₀ 174 170) (hS : h₀.IsList scr svs.toArray) (hSI : IntsAre svs sns) (hSl : sns.length ≤ 63) (kMark : KstMark)
    (hE : PassesOwn (model PySem.Challenge.rw_xc0038_01.row.prog w) (callerA.deeper (lawEnv L fa)) (lawEnv L fa) E) (hI : IntsAre vs ns) (hLen : vs.length = ns.length) (hL : ns.length ≤ 30) (hne : l ≠ 170) (hOff : OwnOff own [l, 170])
    (hM : ∀ z, z ≠ Str.ofString "k" → z ≠ Str.ofString "row" → storedN.contains z = false → m₀ z = mB z)
    {one other : Int} {t1 t2 : Tok} (hLo1 : -5000000000000000000000000000000000000000 ≤ one) (hHi1 : one < 5000000000000000000000000000000000000000) (hLo2 : -5000000000000000000000000000000000000000 ≤ other) (hHi2 : other < 5000000000000000000000000000000000000000) {small : Int} {t3 : Tok} (hS0 : 0 ≤ small) (hS8 : small ≤ 8) {ps : Array Value} (hTab : TabSt ps own)
    (F : Fr h₀ L h (fun y => if y = Str.ofString "small" then some (.int small t3) else if y = Str.ofString "one" then some (.int one t1) else if y = Str.ofString "other" then some (.int other t2) else if y = Str.ofString "k" then some (.int k t) else if y = Str.ofString "row" then some (.ref l) else m₀ y)) (N : News h₀ L h ((l, listOf vs.toArray c) :: (170, tabObj ps) :: own)) :
    wpAny (model PySem.Challenge.rw_xc0038_01.row.prog w) (callerA.deeper (lawEnv L fa)) (execs (turnBody.drop 2) (lawEnv L fa)) (RowPost h₀ L storedN mB own s Q) E { s with heap := h, toks := tk } := by
  revert X
  k_fill
  intro X
  walk_at "my go"
  refine ite_no (by simp <;> omega) ?_
  walk_at "my go"
  refine ite_no (by simp <;> omega) ?_
  walk_at "my go"
  refine ite_no (by rw [sum_rep _ _ (by assumption)]; simp) ?_
  walk_at "my go For"
  rename News _ _ _ _ => zN
  replace zN := news_drop 3 zN
  simp only [List.drop_succ_cons, List.drop_zero] at zN
  k_with_none
  k_with "pyIter ref" => k_state_given ["one"] (fun one pre p => p = one ^ pre.length) "power"
  k_with "state" => exact pow_step (by assumption)
  walk_at "my go pyIter"
  walk_at "my step"
  · walk_at "my go"
  walk_at "my go next"
  rename Fr _ _ _ _ => zF
  rename News _ _ _ _ => zN
  have f0 := fr_name (n := Str.ofString "row") zF rfl
  have f1 := fr_name (n := Str.ofString "k") f0 rfl
  have f2 := fr_name (n := Str.ofString "other") f1 rfl
  have f3 := fr_name (n := Str.ofString "one") f2 rfl
  have f4 := fr_name (n := Str.ofString "small") f3 rfl
  have f5 := fr_name (n := Str.ofString "power") f4 rfl
  refine' t5 X T B hC hS hSI hSl kMark hE (by assumption) hLen hL hne hOff ?hM hLo1 hHi1 hLo2 hHi2 hS0 hS8 (by assumption) hTab f5 zN
  case hM =>
    intro z h1 h2 h3
    have e := hM z h1 h2 h3
    simp only [storedN, List.contains_cons, List.contains_nil, Bool.or_false, Bool.or_eq_false_iff, beq_eq_false_iff_ne, ne_eq] at h3
    simp [h1, h2, h3, e]
theorem t0 (X : (Mine.hd.heap_39 w.params).In h₀) (T : Top p loose mean mg mb h₀) (B : Below callerA h₀ [] h₀) (hC : CodeHd h₀ 174 170) (hS : h₀.IsList scr svs.toArray) (hSI : IntsAre svs sns) (hSl : sns.length ≤ 63) (kMark : KstMark)
    (hE : PassesOwn (model PySem.Challenge.rw_xc0038_01.row.prog w) (callerA.deeper (lawEnv L fa)) (lawEnv L fa) E) (hI : IntsAre vs ns) (hLen : vs.length = ns.length) (hL : ns.length ≤ 30) (hne : l ≠ 170) (hOff : OwnOff own [l, 170])
    (hM : ∀ z, z ≠ Str.ofString "k" → z ≠ Str.ofString "row" → storedN.contains z = false → m₀ z = mB z)
    {ps : Array Value} (hTab : TabSt ps own) (k0 : 0 ≤ k) (k1 : k < (sns.length : Int)) (hScr : mB (Str.ofString "script") = some (.ref scr))
    (F : Fr h₀ L h (fun y => if y = Str.ofString "k" then some (.int k t) else if y = Str.ofString "row" then some (.ref l) else if y = Str.ofString "script" then some (.ref scr) else m₀ y)) (N : News h₀ L h ((l, listOf vs.toArray c) :: (170, tabObj ps) :: own)) :
    wpAny (model PySem.Challenge.rw_xc0038_01.row.prog w) (callerA.deeper (lawEnv L fa)) (execs (turnBody.drop 0) (lawEnv L fa)) (RowPost h₀ L storedN mB own s Q) E { s with heap := h, toks := tk } := by
  revert X
  k_fill
  intro X
  walk_at "my step"
  walk_at "my go next"
  walk_at "my step"
  walk_at "my step"
  walk_at "my go next"
  rename Fr _ _ _ _ => zF
  rename News _ _ _ _ => zN
  have f0 := fr_name (n := Str.ofString "row") zF rfl
  have f1 := fr_name (n := Str.ofString "k") f0 rfl
  have f2 := fr_name (n := Str.ofString "other") f1 rfl
  have f3 := fr_name (n := Str.ofString "one") f2 rfl
  have f4 := fr_name (n := Str.ofString "small") f3 rfl
  replace zN := news_drop 1 zN
  simp only [List.drop_succ_cons, List.drop_zero] at zN
  refine' t2 X T B hC hS hSI hSl kMark hE (by assumption) hLen hL hne hOff ?hM (by assumption) (by assumption) (by assumption) (by assumption) (by assumption) (by assumption) hTab f4 zN
  case hM =>
    intro z h1 h2 h3
    have e := hM z h1 h2 h3
    simp only [storedN, List.contains_cons, List.contains_nil, Bool.or_false, Bool.or_eq_false_iff, beq_eq_false_iff_ne, ne_eq] at h3
    simp [h1, h2, h3, e]
    intro hz
    rw [hz, hScr]
end
theorem fin : PySem.Challenge.rw_xc0038_01.Holds := by
  refine hd ?_
  k_with_none
  k_go0
  all_goals (try k_fold)
  walk_at "my go pyIter"
  rename Fr _ _ _ _ => lF
  rename News _ _ _ _ => lN
  rename IsRange _ _ _ _ _ _ _ _ => lR
  with_unfolding_all refine' rows_range (vs₀ := []) (ns₀ := []) [Str.ofString "one", Str.ofString "other", Str.ofString "small", Str.ofString "power", Str.ofString "turn", Str.ofString "whole", Str.ofString "rest", Str.ofString "low", Str.ofString "high", Str.ofString "order", Str.ofString "part", Str.ofString "held"] (by rfl) lR (small_one (by omega) (by omega) (by omega) (by omega)) (rangeSize_nat _ _) lF lN .nil (by decide) (by rfl) ?_ ?_
  rotate_left
  · clear lF lN
    intro m₁ l o ps more h tk hF hN
    walk_at "my go"
  clear lF lN
  intro l vs ns c k t u h tk ps own k0 k1 hI hLen hL hne hOff hTab hF hN
  have f0 := fr_name (n := Str.ofString "script") hF rfl
  have f1 := fr_name (n := Str.ofString "row") f0 rfl
  have f2 := fr_name (n := Str.ofString "k") f1 rfl
  refine' t0 ?X ?T ?B ?hC ?hS ?hSI ?hSl kstMark ?hE hI hLen hL hne hOff ?hM hTab k0 ?k1 ?hScr f2 hN
  case X => assumption
  case T => assumption
  case B => assumption
  case hC => assumption
  case hS => assumption
  case hSI => assumption
  case hSl => omega
  case hE => passes_own
  case hM =>
    intro z h1 h2 h3
    simp only [storedN, List.contains_cons, List.contains_nil, Bool.or_false, Bool.or_eq_false_iff, beq_eq_false_iff_ne, ne_eq] at h3
    simp [h1, h2, h3]
  case k1 => omega
  case hScr => rfl
end Mine
end
theorem PySem.Challenge.cw_xc0038_01_holds : PySem.Challenge.rw_xc0038_01.Holds :=
  Mine.fin
