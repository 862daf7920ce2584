import PyProof.Rows.All
import Wide.All
import OpenK.AllK
import Wide.FinOn
import PySem.Challenge.RW_sw0076_02
open PySem PySem.W PyProof.Rows PySem.Calls
set_option Elab.async false
set_option maxRecDepth 100000
set_option compiler.extract_closed false
section
set_option maxHeartbeats 8000000
namespace Mine
theorem said : OpenLaw.wellSaid PySem.Challenge.rw_sw0076_02 = true := by
  rw [PySem.W.Fast.te9446332074065402090]
  kernel_rfl
end Mine
section
local macro_rules | `(tactic| first | $t:tacticSeq | fail "open_line: no head takes this row (the callee does not stand as its def is written, or a look at the text refuses)") => `(tactic| (($t); (· intro w; delta openEnds topFrom fencedOpening; rw [PySem.W.Fast.te14082659384304107361, PySem.W.Fast.te4187177175401517315, PySem.W.Fast.te14364793385576792824]; kernel_rfl)))
local macro_rules | `(tactic| o_law) => `(tactic| refine holds_law Mine.said fun said => ?_)
open_top hd02 for PySem.Challenge.rw_sw0076_02
end
namespace Mine
theorem top_off : True := by
  w_top off
  exact trivial
end Mine
end
namespace Mine
section
-- Num
set_option maxHeartbeats 1000000
open PySem.Builtin (bitAnd bitOr bitXor)
open PySem.Builtin.Int (intBits)

theorem pow_pos2 (k : Nat) : (0 : Int) < 2 ^ k := kbt_pos k
theorem pow_succ2 (k : Nat) : (2 : Int) ^ (k + 1) = 2 * 2 ^ k := by rw [Int.pow_succ, Int.mul_comm]
theorem pow_add2 (j k : Nat) : (2 : Int) ^ (j + k) = 2 ^ j * 2 ^ k := Int.pow_add 2 j k

theorem and_same (x : Int) : bitAnd x x = x := by
  have := bitXor_and x x
  rw [bitXor_self] at this
  omega
theorem and_high (k : Nat) : ∀ (u l : Int), 0 ≤ l → l < 2 ^ k → bitAnd (u * 2 ^ k + l) (u * 2 ^ k) = u * 2 ^ k := by
  induction k with
  | zero =>
    intro u l h0 h1
    have : l = 0 := by simp at h1; omega
    subst this
    simp [and_same]
  | succ k ih =>
    intro u l h0 h1
    rw [kbt_halves]
    have e0 : u * 2 ^ (k + 1) = 2 * (u * 2 ^ k) := by
      rw [pow_succ2, ← Int.mul_assoc, Int.mul_comm u 2, Int.mul_assoc]
    rw [pow_succ2] at h1
    rw [e0]
    have e1 : (2 * (u * 2 ^ k) + l) / 2 = u * 2 ^ k + l / 2 := by omega
    have e2 : 2 * (u * 2 ^ k) / 2 = u * 2 ^ k := by omega
    have e3 : 2 * (u * 2 ^ k) % 2 = 0 := by omega
    rw [e1, e2, ih u (l / 2) (by omega) (by omega), if_neg (by omega)]
    omega
theorem xor_high (k : Nat) (x : Int) : bitXor x (x.fdiv (2 ^ k) * 2 ^ k) = x.fmod (2 ^ k) := by
  have h := kbt_whole x k
  have r := kbt_rest x k
  have e := and_high k (x.fdiv (2 ^ k)) (x.fmod (2 ^ k)) r.1 r.2
  rw [h] at e
  rw [bitXor_and, e]
  omega
/-- quotient and rest of floor division are what they should be -/
theorem fdm_unique {a b q r : Int} (hb : 0 < b) (h : q * b + r = a) (h0 : 0 ≤ r) (h1 : r < b) : a.fdiv b = q ∧ a.fmod b = r := by
  have e := kbt_unique hb (show r + b * q = a by rw [Int.mul_comm b q]; omega) h0 h1
  exact ⟨(Int.fdiv_eq_ediv_of_nonneg a (Int.le_of_lt hb)).trans e.1, (Int.fmod_eq_emod_of_nonneg a (Int.le_of_lt hb)).trans e.2⟩
theorem fdm_facts (a : Int) {b : Int} (hb : 0 < b) : a.fdiv b * b + a.fmod b = a ∧ 0 ≤ a.fmod b ∧ a.fmod b < b := by
  refine ⟨?_, ?_, ?_⟩
  · have := Int.mul_fdiv_add_fmod a b
    rw [Int.mul_comm]; exact this
  · exact Int.fmod_nonneg_of_pos a hb
  · exact Int.fmod_lt_of_pos a hb
theorem bits_lt {x : Int} {k : Nat} (h0 : 0 ≤ x) (h : x < 2 ^ k) : intBits x ≤ k := by
  refine intBits_le_iff.mpr ?_
  have e : ((2 ^ k : Nat) : Int) = (2 : Int) ^ k := kbt_cast k
  omega
theorem lt_bits {x : Int} {k : Nat} (h : intBits x ≤ k) : x < 2 ^ k ∧ -(2 ^ k) < x := by
  have h := intBits_le_iff.mp h
  have e : ((2 ^ k : Nat) : Int) = (2 : Int) ^ k := kbt_cast k
  omega
theorem pow_le2 {j k : Nat} (h : j ≤ k) : (2 : Int) ^ j ≤ 2 ^ k := by
  obtain ⟨d, rfl⟩ := Nat.exists_eq_add_of_le h
  rw [pow_add2]
  have h1 := pow_pos2 j
  have h2 := pow_pos2 d
  have : (2 : Int) ^ j * 1 ≤ 2 ^ j * 2 ^ d := Int.mul_le_mul_of_nonneg_left (by omega) (by omega)
  omega
theorem noPy {x y : Int} (h : intBits y ≤ 9000) : Builtin.divisionGoesByPylong x y = false := by
  refine PyProof.noPylong_of_log2 ?_
  by_cases h0 : y = 0
  · subst h0; decide
  · have := intBits_le_iff.mp h
    exact (Nat.log2_lt (by omega)).mpr this
theorem mulOk {x y : Int} {m n : Nat} (hx : intBits x ≤ m) (hy : intBits y ≤ n) (h : m + n ≤ 1000000) : IntMulOk x y := by
  have hb : Builtin.Int.intTooBig ((intBits x : Int) + (intBits y : Int)) = false := decide_eq_false (by
    have e : PySem.bitsLine = 134217728 := by decide
    have e' : ((PySem.bitsLine : Nat) : Int) = 134217728 := by rw [e]; rfl
    omega)
  unfold IntMulOk
  rw [hb]; simp
end
section
-- NumDig
set_option maxHeartbeats 1000000
open PySem.Builtin.Int (intBits)

/-- the value of digits, the least first, by 2 ** n -/
def digV (n : Nat) : List Int → Int
  | [] => 0
  | d :: ds => d + 2 ^ n * digV n ds
theorem digV_append (n : Nat) (xs ys : List Int) : digV n (xs ++ ys) = digV n xs + 2 ^ (n * xs.length) * digV n ys := by
  induction xs with
  | nil => simp [digV]
  | cons d ds ih =>
    have e : n * (d :: ds).length = n + n * ds.length := by rw [List.length_cons, Nat.mul_add, Nat.mul_one]; omega
    rw [List.cons_append, digV, digV, ih, e, pow_add2]
    grind
theorem bits_digV {n D : Nat} : ∀ (xs : List Int), (∀ x ∈ xs, intBits x ≤ D) → intBits (digV n xs) ≤ xs.length * (n + D + 3)
  | [], _ => by simp [digV]; decide
  | d :: ds, h => by
    have ih := bits_digV (n := n) ds fun x hx => h x (.tail _ hx)
    have hd := h d (.head _)
    have hp : intBits ((2 : Int) ^ n) ≤ n + 1 := bits_lt (Int.le_of_lt (pow_pos2 n)) (by rw [pow_succ2]; have := pow_pos2 n; omega)
    have := intBits_add_le hd (intBits_mul_le hp ih)
    rw [digV, List.length_cons, Nat.add_mul, Nat.one_mul]
    omega
/-- the piece of a list from a up to b -/
def pieceV (n : Nat) (ns : List Int) (a b : Int) : Int := digV n ((ns.drop a.toNat).take (b.toNat - a.toNat))
theorem pieceV_one {n : Nat} {ns : List Int} {a b : Int} (h0 : 0 ≤ a) (h1 : a + 1 = b) (h2 : b ≤ ns.length) : pieceV n ns a b = ns.getD a.toNat 0 := by
  have e : b.toNat - a.toNat = 1 := by omega
  have hl : a.toNat < ns.length := by omega
  unfold pieceV
  rw [e, List.drop_eq_getElem_cons hl, List.take_succ_cons, List.take_zero]
  simp [digV, List.getD_eq_getElem?_getD, List.getElem?_eq_getElem hl]
theorem pieceV_split {n : Nat} {ns : List Int} {a m b : Int} (h0 : 0 ≤ a) (h1 : a ≤ m) (h2 : m ≤ b) (h3 : b ≤ ns.length) :
    pieceV n ns m b * 2 ^ (n * (m - a).toNat) + pieceV n ns a m = pieceV n ns a b := by
  unfold pieceV
  have e0 : (m - a).toNat = m.toNat - a.toNat := by omega
  have k1 : a.toNat ≤ m.toNat := Int.toNat_le_toNat h1
  have k2 : m.toNat ≤ b.toNat := Int.toNat_le_toNat h2
  have k3 : b.toNat ≤ ns.length := Int.toNat_le.mpr h3
  rw [e0]
  clear e0 h0 h1 h2 h3
  generalize a.toNat = a at *
  generalize m.toNat = m at *
  generalize b.toNat = b at *
  have e1 : b - a = (m - a) + (b - m) := by omega
  have e2 : (ns.drop a).drop (m - a) = ns.drop m := by rw [List.drop_drop, Nat.add_sub_cancel' k1]
  have e3 : ((ns.drop a).take (m - a)).length = m - a := List.length_take_of_le (by rw [List.length_drop]; exact Nat.sub_le_sub_right (Nat.le_trans k2 k3) _)
  rw [e1, List.take_add, digV_append, e2, e3]
  first | exact Int.add_comm _ _ | (rw [Int.mul_comm]; exact Int.add_comm _ _) | (rw [Int.add_comm, Int.mul_comm])
theorem bits_piece {n D : Nat} {ns : List Int} {a b : Int} (h : ∀ x ∈ ns, intBits x ≤ D) (hl : ns.length ≤ 100) (hn : n ≤ 20000) (hD : D ≤ 20000) : intBits (pieceV n ns a b) ≤ 4000300 := by
  refine Nat.le_trans (bits_digV (D := D) _ fun x hx => h x (List.mem_of_mem_drop (List.mem_of_mem_take hx))) ?_
  have h1 : ((ns.drop a.toNat).take (b.toNat - a.toNat)).length ≤ 100 := by
    rw [List.length_take, List.length_drop]; omega
  have h2 := Nat.mul_le_mul h1 (show n + D + 3 ≤ 40003 by omega)
  omega
theorem pieceV_all {n : Nat} {ns : List Int} : pieceV n ns 0 ns.length = digV n ns := by
  unfold pieceV; simp
theorem shlOk2 {x n : Int} {m : Nat} (hx : intBits x ≤ m) (h : (m : Int) + n ≤ 134217728) : (intBits x : Int) + n ≤ 2 ^ 27 := by
  have e : (2 : Int) ^ 27 = 134217728 := by decide
  rw [e]; omega
theorem half_is (a b : Int) : (a + b).fdiv (2 ^ Int.toNat 1) = (a + b) / 2 := Int.fdiv_eq_ediv_of_nonneg _ (by decide)
theorem half_shift {a m n : Int} (hn : 0 ≤ n) (hm : a ≤ m) : ((m - a) * n).toNat = n.toNat * (m - a).toNat := by
  obtain ⟨x, rfl⟩ := Int.eq_ofNat_of_zero_le hn
  obtain ⟨y, hy⟩ := Int.eq_ofNat_of_zero_le (show 0 ≤ m - a by omega)
  rw [hy]
  show ((y : Int) * (x : Int)).toNat = x * y
  rw [← Int.natCast_mul, Nat.mul_comm]; rfl
theorem half_size {ns : List Int} {D : Nat} {n a m b : Int} (h : ∀ x ∈ ns, intBits x ≤ D) (hl : ns.length ≤ 100) (hn0 : 0 ≤ n) (hn : n ≤ 20000) (hD : D ≤ 20000) (hm : a ≤ m) (hm2 : m - a ≤ 100) :
    (intBits (pieceV n.toNat ns m b) : Int) + (m - a) * n ≤ 2 ^ 27 := by
  refine shlOk2 (bits_piece h hl (by omega) hD) ?_
  have : (m - a) * n ≤ 100 * n := Int.mul_le_mul_of_nonneg_right hm2 hn0
  omega
theorem mulOk_small {x y : Int} (h0 : 0 ≤ x) (h : x ≤ 1000000) : IntMulOk x y := IntMulOk.of_left (intBits_le_64 (by omega) (by omega))
end
section
-- NumI2D
set_option maxHeartbeats 1000000
open PySem.Builtin.Int (intBits)

theorem parts_mul {x B C : Int} (hB : 0 < B) (hC : 0 < C) : x.fmod (B * C) = B * (x.fdiv B).fmod C + x.fmod B ∧ x.fdiv (B * C) = (x.fdiv B).fdiv C ∧ (x.fmod (B * C)).fmod B = x.fmod B ∧ (x.fmod (B * C)).fdiv B = (x.fdiv B).fmod C := by
  have h1 := fdm_facts x hB
  have h2 := fdm_facts (x.fdiv B) hC
  have hm : 0 ≤ B * (x.fdiv B).fmod C := Int.mul_nonneg (Int.le_of_lt hB) h2.2.1
  have hl : B * ((x.fdiv B).fmod C + 1) ≤ B * C := Int.mul_le_mul_of_nonneg_left (by omega) (Int.le_of_lt hB)
  have e3 := fdm_unique (a := x) (b := B * C) (q := (x.fdiv B).fdiv C) (r := B * (x.fdiv B).fmod C + x.fmod B) (Int.mul_pos hB hC) (by
    have e1 := h1.1
    have e2 := h2.1
    generalize x.fmod B = r0 at *
    generalize (x.fdiv B).fmod C = r1 at *
    generalize (x.fdiv B).fdiv C = q1 at *
    rw [← e1, ← e2]
    grind) (by omega) (by rw [Int.mul_add, Int.mul_one] at hl; omega)
  have e4 := fdm_unique (a := B * (x.fdiv B).fmod C + x.fmod B) (b := B) (q := (x.fdiv B).fmod C) (r := x.fmod B) hB (by rw [Int.mul_comm]) h1.2.1 h1.2.2
  refine ⟨e3.2, e3.1, ?_, ?_⟩
  · rw [e3.2, e4.2]
  · rw [e3.2, e4.1]
/-- k digits of x by 2 ** n, the least first -/
def digs (n : Nat) : Int → Nat → List Int
  | _, 0 => []
  | x, k + 1 => x.fmod (2 ^ n) :: digs n (x.fdiv (2 ^ n)) k
theorem digs_length (n : Nat) : ∀ (k : Nat) (x : Int), (digs n x k).length = k
  | 0, _ => rfl
  | k + 1, x => by rw [digs, List.length_cons, digs_length n k]
theorem digs_split (n k : Nat) : ∀ (j : Nat) (x : Int), digs n x (j + k) = digs n (x.fmod (2 ^ (n * j))) j ++ digs n (x.fdiv (2 ^ (n * j))) k := by
  intro j
  induction j with
  | zero => intro x; simp [digs]
  | succ j ih =>
    intro x
    have e : j + 1 + k = (j + k) + 1 := by omega
    have e2 : n * (j + 1) = n + n * j := by rw [Nat.mul_add, Nat.mul_one]; omega
    obtain ⟨p1, p2, p3, p4⟩ := parts_mul (x := x) (pow_pos2 n) (pow_pos2 (n * j))
    rw [e, digs, digs, ih, e2, pow_add2, p2, p3, p4]
    rfl
theorem digs_range (n : Nat) : ∀ (k : Nat) (x : Int), ∀ d ∈ digs n x k, 0 ≤ d ∧ d < 2 ^ n
  | 0, _, _, h => nomatch h
  | k + 1, x, d, h => by
    rw [digs] at h
    rcases List.mem_cons.mp h with e | e
    · have := fdm_facts x (pow_pos2 n)
      rw [e]; exact this.2
    · exact digs_range n k _ d e
theorem digs_val (n : Nat) : ∀ (k : Nat) (x : Int), 0 ≤ x → x < 2 ^ (n * k) → digV n (digs n x k) = x
  | 0, x, h0, h1 => by
    have : x = 0 := by simp at h1; omega
    subst this; rfl
  | k + 1, x, h0, h1 => by
    have e2 : n * (k + 1) = n * k + n := by rw [Nat.mul_add, Nat.mul_one]
    rw [e2, pow_add2] at h1
    have f := fdm_facts x (pow_pos2 n)
    have hp := pow_pos2 n
    have hq : 0 ≤ x.fdiv (2 ^ n) := Int.fdiv_nonneg h0 (Int.le_of_lt hp)
    have hlt : x.fdiv (2 ^ n) < 2 ^ (n * k) := by
      refine Int.lt_of_not_ge fun hge => ?_
      have := Int.mul_le_mul_of_nonneg_right hge (Int.le_of_lt hp)
      omega
    rw [digs, digV, digs_val n k _ hq hlt]
    have := f.1
    rw [Int.mul_comm]; omega
theorem digs_one {n : Nat} {x : Int} (h0 : 0 ≤ x) (h1 : x < 2 ^ n) : digs n x 1 = [x] := by
  have f := fdm_unique (a := x) (b := 2 ^ n) (q := 0) (r := x) (pow_pos2 n) (by omega) h0 h1
  rw [digs, f.2]; rfl
/-- the list with the digits of x from a up to b -/
def putDigs (n : Nat) (xs : List Int) (x a b : Int) : List Int := xs.take a.toNat ++ digs n x (b.toNat - a.toNat) ++ xs.drop b.toNat
theorem putDigs_length {n : Nat} {xs : List Int} {x a b : Int} (h0 : 0 ≤ a) (h1 : a ≤ b) (h2 : b ≤ xs.length) : (putDigs n xs x a b).length = xs.length := by
  unfold putDigs
  rw [List.length_append, List.length_append, digs_length, List.length_take, List.length_drop]; omega
theorem putDigs_one {n : Nat} {xs : List Int} {x a b : Int} (h0 : 0 ≤ a) (h1 : a + 1 = b) (h2 : b ≤ xs.length) (hx : 0 ≤ x) (hx' : x < 2 ^ n) : putDigs n xs x a b = xs.set a.toNat x := by
  have e : b.toNat - a.toNat = 1 := by omega
  have hl : a.toNat < xs.length := by omega
  have e2 : b.toNat = a.toNat + 1 := by omega
  unfold putDigs
  rw [e, digs_one hx hx', e2, List.set_eq_take_append_cons_drop, if_pos hl]
  simp
theorem putDigs_nat {n : Nat} {xs : List Int} {x : Int} {a m b : Nat} (h1 : a ≤ m) (h2 : m ≤ b) (h3 : b ≤ xs.length) :
    (xs.take a ++ digs n (x.fmod (2 ^ (n * (m - a)))) (m - a) ++ xs.drop m).take m ++ digs n (x.fdiv (2 ^ (n * (m - a)))) (b - m) ++ (xs.take a ++ digs n (x.fmod (2 ^ (n * (m - a)))) (m - a) ++ xs.drop m).drop b = xs.take a ++ digs n x (b - a) ++ xs.drop b := by
  have e1 : b - a = (m - a) + (b - m) := by omega
  have l1 : (xs.take a).length = a := List.length_take_of_le (Nat.le_trans h1 (Nat.le_trans h2 h3))
  have l2 : (digs n (x.fmod (2 ^ (n * (m - a)))) (m - a)).length = m - a := digs_length ..
  have l3 : (xs.take a ++ digs n (x.fmod (2 ^ (n * (m - a)))) (m - a)).length = m := by rw [List.length_append, l1, l2]; exact Nat.add_sub_cancel' h1
  rw [e1, digs_split]
  generalize digs n (x.fmod (2 ^ (n * (m - a)))) (m - a) = D1 at *
  generalize xs.take a = T at *
  have t1 : (T ++ D1 ++ xs.drop m).take m = T ++ D1 := by
    rw [List.take_append, l3, Nat.sub_self, List.take_zero, List.append_nil, List.take_of_length_le (Nat.le_of_eq l3)]
  have t2 : (T ++ D1 ++ xs.drop m).drop b = xs.drop b := by
    rw [List.drop_append, l3, List.drop_eq_nil_of_le (by rw [l3]; exact h2), List.nil_append, List.drop_drop, Nat.add_sub_cancel' h2]
  rw [t1, t2]
  simp only [List.append_assoc]
theorem putDigs_split {n : Nat} {xs : List Int} {x a m b : Int} (h0 : 0 ≤ a) (h1 : a ≤ m) (h2 : m ≤ b) (h3 : b ≤ xs.length) :
    putDigs n (putDigs n xs (x.fmod (2 ^ (n * (m - a).toNat))) a m) (x.fdiv (2 ^ (n * (m - a).toNat))) m b = putDigs n xs x a b := by
  have e2 : (m - a).toNat = m.toNat - a.toNat := by omega
  have k1 : a.toNat ≤ m.toNat := Int.toNat_le_toNat h1
  have k2 : m.toNat ≤ b.toNat := Int.toNat_le_toNat h2
  have k3 : b.toNat ≤ xs.length := Int.toNat_le.mpr h3
  unfold putDigs
  rw [e2]
  clear e2 h0 h1 h2 h3
  generalize a.toNat = a at *
  generalize m.toNat = m at *
  generalize b.toNat = b at *
  exact putDigs_nat k1 k2 k3
theorem putDigs_all {n : Nat} {xs : List Int} {x : Int} : putDigs n xs x 0 xs.length = digs n x xs.length := by
  unfold putDigs; simp
theorem st_lt {n : Nat} {x a m b : Int} (h0 : a ≤ m) (h1 : m ≤ b) (hx : x < 2 ^ (n * (b - a).toNat)) : x.fdiv (2 ^ (n * (m - a).toNat)) < 2 ^ (n * (b - m).toNat) := by
  have e : n * (b - a).toNat = n * (m - a).toNat + n * (b - m).toNat := by
    rw [← Nat.mul_add]; congr 1; omega
  rw [e, pow_add2] at hx
  have hp := pow_pos2 (n * (m - a).toNat)
  have f := fdm_facts x hp
  refine Int.lt_of_not_ge fun hge => ?_
  have := Int.mul_le_mul_of_nonneg_right hge (Int.le_of_lt hp)
  rw [Int.mul_comm] at this
  omega
theorem st_bits {n k : Nat} {x : Int} (h0 : 0 ≤ x) (h : x < 2 ^ (n * k)) (hn : n ≤ 20000) (hk : k ≤ 100) : intBits x ≤ 2000000 :=
  Nat.le_trans (bits_lt h0 h) (Nat.mul_le_mul hn hk)
theorem st_size {n : Int} {x a m b y : Int} {k : Nat} (hn0 : 0 ≤ n) (hn : n ≤ 20000) (h0 : 0 ≤ x) (h : x < 2 ^ (n.toNat * k)) (hk : k ≤ 100) (hm2 : m - a ≤ 100) :
    (intBits (x.fdiv y) : Int) + (m - a) * n ≤ 2 ^ 27 := by
  refine shlOk2 (intBits_fdiv_le (st_bits h0 h (by omega) hk)) ?_
  have : (m - a) * n ≤ 100 * n := Int.mul_le_mul_of_nonneg_right hm2 hn0
  omega
theorem count_digs {B n : Int} (hB : 0 ≤ B) (hn : 1 ≤ n) (hb : B ≤ 100 * n) : 0 ≤ (B + n - 1).fdiv n ∧ (B + n - 1).fdiv n ≤ 100 ∧ B ≤ n * (B + n - 1).fdiv n ∧ (0 < B → 1 ≤ (B + n - 1).fdiv n) ∧ (B = 0 → (B + n - 1).fdiv n = 0) := by
  have f := fdm_facts (B + n - 1) (show 0 < n by omega)
  have h0 : 0 ≤ (B + n - 1).fdiv n := Int.fdiv_nonneg (by omega) (by omega)
  generalize (B + n - 1).fdiv n = q at *
  generalize (B + n - 1).fmod n = r at *
  have e := Int.mul_comm q n
  refine ⟨h0, ?_, by omega, fun h => ?_, fun h => ?_⟩
  · refine Int.le_of_lt_add_one (Int.lt_of_not_ge fun hge => ?_)
    have := Int.mul_le_mul_of_nonneg_right (show 101 ≤ q by omega) (show 0 ≤ n by omega)
    omega
  · refine Int.le_of_not_gt fun hlt => ?_
    have : q = 0 := by omega
    subst this
    omega
  · refine Int.le_antisymm (Int.le_of_not_gt fun hgt => ?_) h0
    have := Int.mul_le_mul_of_nonneg_right (show 1 ≤ q by omega) (show 0 ≤ n by omega)
    omega
theorem bits_pos {a : Int} (h : a ≠ 0) : 0 < intBits a := by
  refine Nat.pos_of_ne_zero fun e => ?_
  have := intBits_le_iff.mp (Nat.le_of_eq e)
  omega
theorem bits_zero : intBits 0 = 0 := by decide
theorem lt_digs {a n q : Int} {N : Nat} (h0 : 0 ≤ n) (hb : (intBits a : Int) ≤ n * q) (hN : (N : Int) = q) : a < 2 ^ (n.toNat * ((N : Int) - 0).toNat) := by
  have h := (lt_bits (Nat.le_refl (intBits a))).1
  refine Int.lt_of_lt_of_le h (pow_le2 ?_)
  obtain ⟨m, rfl⟩ := Int.eq_ofNat_of_zero_le h0
  subst hN
  have e : ((N : Int) - 0).toNat = N := by omega
  rw [e]
  show intBits a ≤ m * N
  exact Int.ofNat_le.mp (by rw [Int.natCast_mul]; exact hb)
theorem flat_one (k : Nat) (x : Int) : (List.replicate k [x]).flatten.length = k := by
  induction k with
  | zero => rfl
  | succ k ih => rw [List.replicate_succ, List.flatten_cons, List.length_append, ih]; simp; omega
theorem putDigs_flat {n k N : Nat} {x : Int} (h : (List.replicate k [(0 : Int)]).flatten.length = N) : putDigs n (List.replicate k [(0 : Int)]).flatten x 0 (N : Int) = digs n x k := by
  subst h
  rw [putDigs_all, flat_one]
theorem flat_none {n : Nat} {a q : Int} (ha : a = 0) (h : (intBits a : Int) = 0 → q = 0) : (List.replicate q.toNat [(0 : Int)]).flatten = digs n a q.toNat := by
  have : q = 0 := h (by rw [ha, bits_zero]; rfl)
  rw [this]; rfl
end
section
-- NumLoop
set_option maxHeartbeats 1000000

/-- a mark that the walk does not pass: the loop is opened by hand -/
def LoopHere (P : Prop) : Prop := P
theorem LoopHere.out {P : Prop} (h : LoopHere P) : P := h
theorem LoopHere.mk {P : Prop} (h : P) : LoopHere P := h

/-- what a turn of a loop must show: the next state, over the ledger's tail -/
def TurnEnd {σ : Type} (h₀ : Heap) (L : Addr) (x : Str) (s : Shared) (Led : σ → List (Addr × Obj)) (Mp : σ → Str → Option Value) (tl : List (Addr × Obj)) (J : σ → Prop) (s' : Shared) : Prop :=
  ∃ c h' tk m₂ all, s' = { s with heap := h', toks := tk } ∧ Fr h₀ L h' m₂ ∧ News h₀ L h' all ∧ (∀ p ∈ Led c ++ tl, p ∈ all) ∧ (∀ y, y ≠ x → m₂ y = Mp c y) ∧ J c
def Turn {σ : Type} (h₀ : Heap) (L : Addr) (x : Str) (s : Shared) (Led : σ → List (Addr × Obj)) (Mp : σ → Str → Option Value) (tl : List (Addr × Obj)) (J : σ → Prop) (Q : Flow → Shared → Prop) (f : Flow) (s' : Shared) : Prop :=
  match f with
  | .ret v => Q (.ret v) s'
  | .brk => Q .next s'
  | _ => TurnEnd h₀ L x s Led Mp tl J s'
theorem turn_next {σ : Type} {h₀ : Heap} {L : Addr} {x : Str} {s : Shared} {Led : σ → List (Addr × Obj)} {Mp : σ → Str → Option Value} {tl : List (Addr × Obj)} {J : σ → Prop} {Q : Flow → Shared → Prop}
    (c : σ) {h' : Heap} {tk : Nat} {m₂ : Str → Option Value} {all : List (Addr × Obj)} (F : Fr h₀ L h' m₂) (N : News h₀ L h' all) (hs : ∀ p ∈ Led c ++ tl, p ∈ all) (hm : ∀ y, y ≠ x → m₂ y = Mp c y) (hJ : J c) :
    Turn h₀ L x s Led Mp tl J Q .next { s with heap := h', toks := tk } := ⟨c, h', tk, m₂, all, rfl, F, N, hs, hm, hJ⟩
section
variable {prog : Program} {w : World} {A : Around} {E : Value → Shared → Prop} {s : Shared} {env : Env} {h₀ : Heap} {x : Str} {body : List Stmt} {Q : Flow → Shared → Prop}
/-- a loop over an iterator that stands, by an invariant over a state -/
theorem loop_W {σ : Type} {I : Addr} {fp wr : List Addr} {n : Nat} {P : Nat → Value → Prop} {St : Nat → Heap → Prop} {m : Str → Option Value} {tail : List (Addr × Obj)}
    (Led : σ → List (Addr × Obj)) (Mp : σ → Str → Option Value) (Inv : Nat → σ → Prop) (R : Addr → Prop) (c₀ : σ)
    (W : Walks prog w A I fp wr n P St) (hLf : env.locals ∉ fp) (hwr : ∀ b ∈ wr, h₀.get? b = none) (hst : St 0 s.heap) (F : Fr h₀ env.locals s.heap m) (N : News h₀ env.locals s.heap (Led c₀ ++ tail))
    (hoff : ∀ p ∈ tail, p.1 ∉ wr) (hLw : ∀ i c, Inv i c → ∀ p ∈ Led c, p.1 ∉ wr) (hR : ∀ p ∈ tail, R p.1) (hRf : ∀ b ∈ fp, R b) (hm : ∀ y, y ≠ x → m y = Mp c₀ y) (h0 : Inv 0 c₀)
    (done : ∀ c u h tk, Inv n c → Fr h₀ env.locals h (fun y => if y = x then u else Mp c y) → News h₀ env.locals h (Led c ++ tail) → Q .next { s with heap := h, toks := tk })
    (turn : ∀ i v c h tk tl, i < n → P i v → Inv i c → (∀ p ∈ tl, R p.1) → (∀ p ∈ tail, p ∈ tl) → Fr h₀ env.locals h (fun y => if y = x then some v else Mp c y) → News h₀ env.locals h (Led c ++ tl) →
      wpAny (model prog w) A (execs body env) (Turn h₀ env.locals x { s with heap := h, toks := tk } Led Mp tl (Inv (i + 1)) Q) E { s with heap := h, toks := tk }) :
    LoopAtV prog w A h₀ env x body Q E (.ref I) s := by
  let J : Nat → (Str → Option Value) → List (Addr × Obj) → Prop := fun i m₁ news₁ => ∃ c, Inv i c ∧ (∀ y, y ≠ x → m₁ y = Mp c y) ∧ news₁ = Led c ++ tail
  have offJ : ∀ i c, Inv i c → ∀ p ∈ Led c ++ tail, p.1 ∉ wr := fun i c hi p hp => (List.mem_append.mp hp).elim (hLw i c hi p) (hoff p)
  have em : ∀ (m₁ : Str → Option Value) (c : σ) (u : Option Value), (∀ y, y ≠ x → m₁ y = Mp c y) → (fun y => if y = x then u else m₁ y) = fun y => if y = x then u else Mp c y := fun m₁ c u h => by
    funext y
    by_cases e : y = x
    · rw [if_pos e, if_pos e]
    · rw [if_neg e, if_neg e, h y e]
  refine ⟨I, fp, wr, n, P, St, m, Led c₀ ++ tail, J, rfl, W, hLf, hwr, offJ 0 c₀ h0, hst, F, N, ⟨c₀, h0, hm, rfl⟩, ?_, ?_⟩
  · rintro i v m₁ news₁ s₁ own ⟨h, tk, rfl⟩ hin hP ⟨c, hi, hm₁, rfl⟩ _ hown _ _ _ F₁ N₁
    rw [em m₁ c (some v) hm₁] at F₁
    have N₂ : News h₀ env.locals h (Led c ++ (tail ++ own)) := fun p hp => N₁ p (by
      rcases List.mem_append.mp hp with hp | hp
      · exact List.mem_append_right _ (List.mem_append_left _ hp)
      · rcases List.mem_append.mp hp with hp | hp
        · exact List.mem_append_right _ (List.mem_append_right _ hp)
        · exact List.mem_append_left _ hp)
    have t := turn i v c h tk (tail ++ own) hin hP hi (fun p hp => (List.mem_append.mp hp).elim (hR p) fun hp => hRf _ (hown p hp)) (fun p hp => List.mem_append_left _ hp) F₁ N₂
    refine wpAny_mono t (fun f s₂ ht => ?_) fun _ _ e => e
    have fin : TurnEnd h₀ env.locals x { s with heap := h, toks := tk } Led Mp (tail ++ own) (Inv (i + 1)) s₂ → LoopStepU h₀ env.locals wr own (J (i + 1)) { s with heap := h, toks := tk } .next s₂ := by
      rintro ⟨c', h', tk', m₂, all, rfl, F', N', hs, hm₂, hi'⟩
      refine ⟨rfl, h', tk', m₂, Led c' ++ tail, rfl, F', fun p hp => N' p (hs p ?_), offJ _ c' hi', c', hi', hm₂, rfl⟩
      rcases List.mem_append.mp hp with hp | hp
      · exact List.mem_append_right _ (List.mem_append_right _ hp)
      · rcases List.mem_append.mp hp with hp | hp
        · exact List.mem_append_left _ hp
        · exact List.mem_append_right _ (List.mem_append_left _ hp)
    cases f with
    | ret v => exact .ret ht
    | brk => exact .brk ht
    | next => exact .next (fin ht)
    | cont => exact .cont (fin ht)
  · rintro h' tk m' news' F' N' _ ⟨c, hi, hm', rfl⟩
    have e1 : m' = fun y => if y = x then m' x else Mp c y := by
      funext y
      by_cases e : y = x
      · rw [if_pos e, e]
      · rw [if_neg e, hm' y e]
    rw [e1] at F'
    exact done c (m' x) h' tk hi F' N'

theorem ltAll_ne {news : List (Addr × Obj)} {I : Addr} (h : ∀ p ∈ news, p.1 < I) : ∀ p ∈ news, p.1 ∉ [I] := fun p hp hm => absurd (h p hp) ((List.mem_singleton.mp hm) ▸ Nat.lt_irrefl _)
/-- .. over the ints of a list of the ledger -/
theorem loop_list {σ : Type} {l : Addr} {vs : List Value} {m : Str → Option Value} {tail : List (Addr × Obj)}
    (Led : σ → List (Addr × Obj)) (Mp : σ → Str → Option Value) (Inv : Nat → σ → Prop) (R : Addr → Prop) (c₀ : σ) (hh : A.handled = none)
    (hl : s.heap.IsList l vs.toArray) (hlL : l ≠ env.locals) (F : Fr h₀ env.locals s.heap m) (N : News h₀ env.locals s.heap (Led c₀ ++ tail))
    (hLw : ∀ I, (∀ p ∈ Led c₀ ++ tail, p.1 < I) → ∀ i c, Inv i c → ∀ p ∈ Led c, p.1 ≠ I) (hR : ∀ p ∈ tail, R p.1) (hRl : R l) (hRI : ∀ I, (∀ p ∈ Led c₀ ++ tail, p.1 < I) → R I) (hm : ∀ y, y ≠ x → m y = Mp c₀ y) (h0 : Inv 0 c₀)
    (done : ∀ c u h tk, Inv vs.length c → Fr h₀ env.locals h (fun y => if y = x then u else Mp c y) → News h₀ env.locals h (Led c ++ tail) → Q .next { s with heap := h, toks := tk })
    (turn : ∀ i v c h tk tl, i < vs.length → vs[i]? = some v → Inv i c → (∀ p ∈ tl, R p.1) → (∀ p ∈ tail, p ∈ tl) → Fr h₀ env.locals h (fun y => if y = x then some v else Mp c y) → News h₀ env.locals h (Led c ++ tl) →
      wpAny (model prog w) A (execs body env) (Turn h₀ env.locals x { s with heap := h, toks := tk } Led Mp tl (Inv (i + 1)) Q) E { s with heap := h, toks := tk }) :
    wpAny (model prog w) A (pyIter (.ref l)) (fun it s₂ => LoopAtV prog w A h₀ env x body Q E it s₂) E s := by
  obtain ⟨ol, hol, _⟩ := id hl
  have hlt : ∀ p ∈ Led c₀ ++ tail, p.1 < s.heap.objs.size := fun p hp => Heap.lt_size (N p hp).1
  have hne : l ≠ s.heap.objs.size := Nat.ne_of_lt (Heap.lt_size hol)
  refine wpAny_pyIter_list hl ?_
  have W := Walks.list (prog := prog) (w := w) hh s.heap.objs.size l hne vs.toArray
  have hlen : vs.toArray.size = vs.length := by simp
  rw [hlen] at W
  refine loop_W (s := { s with heap := s.heap.push _ }) Led Mp Inv R c₀ W ?_ ?_ ⟨⟨_, Heap.get?_push_size _ rfl, rfl, rfl⟩, hl.at fun o e => Heap.get?_push_of_some _ e⟩ (F.push _) (fun p hp => ⟨Heap.get?_push_of_some _ (N p hp).1, (N p hp).2⟩)
    (ltAll_ne fun p hp => hlt p (List.mem_append_right _ hp)) (fun i c hi p hp hq => hLw _ hlt i c hi p hp (List.mem_singleton.mp hq)) hR ?_ hm h0 done ?_
  · intro hmm
    rcases List.mem_cons.mp hmm with e | hmm
    · exact absurd F.ns.lt (e ▸ Nat.lt_irrefl _)
    · exact hlL (List.mem_singleton.mp hmm).symm
  · intro b hb
    rw [List.mem_singleton.mp hb]
    exact next_is_new F
  · intro b hb
    rcases List.mem_cons.mp hb with e | hb
    · exact e ▸ hRI _ hlt
    · exact (List.mem_singleton.mp hb) ▸ hRl
  · intro i v c h tk tl hi hP
    exact turn i v c h tk tl hi (by simpa using hP)
/-- .. over a list from behind, by the iterator that reversed gave -/
theorem loop_rev {σ : Type} {I l : Addr} {vs : List Value} {k : Int} {m : Str → Option Value} {tail : List (Addr × Obj)}
    (Led : σ → List (Addr × Obj)) (Mp : σ → Str → Option Value) (Inv : Nat → σ → Prop) (R : Addr → Prop) (c₀ : σ) (hh : A.handled = none)
    (hl : s.heap.IsList l vs.toArray) (hlL : l ≠ env.locals) (hlI : l ≠ I) (hk : k = (vs.length : Int) - 1) (F : Fr h₀ env.locals s.heap m) (N : News h₀ env.locals s.heap ((I, revObj l k) :: (Led c₀ ++ tail)))
    (hLw : ∀ i c, Inv i c → ∀ p ∈ Led c, p.1 ≠ I) (hto : ∀ p ∈ tail, p.1 ≠ I) (hR : ∀ p ∈ tail, R p.1) (hRl : R l) (hRI : R I) (hm : ∀ y, y ≠ x → m y = Mp c₀ y) (h0 : Inv 0 c₀)
    (done : ∀ c u h tk, Inv vs.length c → Fr h₀ env.locals h (fun y => if y = x then u else Mp c y) → News h₀ env.locals h (Led c ++ tail) → Q .next { s with heap := h, toks := tk })
    (turn : ∀ i v c h tk tl, i < vs.length → vs[vs.length - 1 - i]? = some v → Inv i c → (∀ p ∈ tl, R p.1) → (∀ p ∈ tail, p ∈ tl) → Fr h₀ env.locals h (fun y => if y = x then some v else Mp c y) → News h₀ env.locals h (Led c ++ tl) →
      wpAny (model prog w) A (execs body env) (Turn h₀ env.locals x { s with heap := h, toks := tk } Led Mp tl (Inv (i + 1)) Q) E { s with heap := h, toks := tk }) :
    wpAny (model prog w) A (pyIter (.ref I)) (fun it s₂ => LoopAtV prog w A h₀ env x body Q E it s₂) E s := by
  have hI := N _ (.head _)
  have hit : s.heap.IsRevIter I l k := ⟨_, hI.1, rfl, rfl⟩
  refine wpAny_pyIter_revIter hit ?_
  have W := Walks.listRev (prog := prog) (w := w) hh I l hlI vs.toArray
  have hlen : vs.toArray.size = vs.length := by simp
  rw [hlen] at W
  refine loop_W Led Mp Inv R c₀ W ?_ ?_ ⟨Nat.zero_le _, ?_, hl⟩ F (fun p hp => N p (.tail _ hp))
    (fun p hp hq => hto p hp (List.mem_singleton.mp hq)) (fun i c hi p hp hq => hLw i c hi p hp (List.mem_singleton.mp hq)) hR ?_ hm h0 done ?_
  · intro hmm
    rcases List.mem_cons.mp hmm with e | hmm
    · exact hI.2.1 e.symm
    · exact hlL (List.mem_singleton.mp hmm).symm
  · intro b hb
    rw [List.mem_singleton.mp hb]
    exact hI.2.2
  · have e : (vs.length : Int) - 1 - ((0 : Nat) : Int) = k := by omega
    rw [e]; exact hit
  · intro b hb
    rcases List.mem_cons.mp hb with e | hb
    · exact e ▸ hRI
    · exact (List.mem_singleton.mp hb) ▸ hRl
  · intro i v c h tk tl hi hP
    exact turn i v c h tk tl hi (by simpa using hP)
end

/-- the frame between two turns: the stored names by the state, the others as they stood -/
def MpOf {τ : Type} (ns : List Str) (m₀ : Str → Option Value) (c : τ × (Str → Option Value)) (y : Str) : Option Value := if ns.contains y = true then c.2 y else m₀ y
theorem mpOf_start {τ : Type} (ns : List Str) (m₀ : Str → Option Value) (a : τ) (y : Str) : m₀ y = MpOf ns m₀ (a, m₀) y := by
  unfold MpOf; split <;> rfl
theorem nc_cons {n y : Str} {ns : List Str} (h : (n :: ns).contains y = false) : y ≠ n ∧ ns.contains y = false := by
  rw [List.contains_cons, Bool.or_eq_false_iff] at h
  exact ⟨fun e => by rw [e] at h; simp at h, h.2⟩
theorem turn_map {τ : Type} {h₀ : Heap} {L : Addr} {x : Str} {s : Shared} {Led : τ → List (Addr × Obj)} {ns : List Str} {m₀ : Str → Option Value} {tl : List (Addr × Obj)} {J : τ × (Str → Option Value) → Prop} {Q : Flow → Shared → Prop}
    (a : τ) {h' : Heap} {tk : Nat} {m₂ : Str → Option Value} {all : List (Addr × Obj)} (F : Fr h₀ L h' m₂) (N : News h₀ L h' all) (hs : ∀ p ∈ Led a ++ tl, p ∈ all) (hm : ∀ y, y ≠ x → ns.contains y = false → m₂ y = m₀ y) (hJ : J (a, m₂)) :
    Turn h₀ L x s (fun c => Led c.1) (MpOf ns m₀) tl J Q .next { s with heap := h', toks := tk } :=
  turn_next (a, m₂) F N hs (fun y hy => by
    unfold MpOf
    cases h : ns.contains y with
    | true => rw [if_pos rfl]
    | false => rw [if_neg Bool.false_ne_true]; exact hm y hy h) hJ
section
variable {τ : Type} {h₀ h : Heap} {L : Addr} {x : Str} {v : Option Value} {m₀ : Str → Option Value} {c : τ × (Str → Option Value)} {n1 n2 n3 n4 : Str} {w1 w2 w3 w4 : Option Value}
theorem open1 (F : Fr h₀ L h (fun y => if y = x then v else MpOf [n1] m₀ c y)) (e1 : c.2 n1 = w1) : Fr h₀ L h (fun y => if y = x then v else if y = n1 then w1 else m₀ y) := by
  subst e1
  have e : (fun y => if y = x then v else MpOf [n1] m₀ c y) = fun y => if y = x then v else if y = n1 then c.2 n1 else m₀ y := by
    funext y
    by_cases hx : y = x
    · rw [if_pos hx, if_pos hx]
    · rw [if_neg hx, if_neg hx]
      unfold MpOf
      by_cases h1 : y = n1
      · subst h1; simp
      · simp [h1]
  rw [e] at F; exact F
theorem open2 (F : Fr h₀ L h (fun y => if y = x then v else MpOf [n1, n2] m₀ c y)) (e1 : c.2 n1 = w1) (e2 : c.2 n2 = w2) : Fr h₀ L h (fun y => if y = x then v else if y = n1 then w1 else if y = n2 then w2 else m₀ y) := by
  subst e1 e2
  have e : (fun y => if y = x then v else MpOf [n1, n2] m₀ c y) = fun y => if y = x then v else if y = n1 then c.2 n1 else if y = n2 then c.2 n2 else m₀ y := by
    funext y
    by_cases hx : y = x
    · rw [if_pos hx, if_pos hx]
    · rw [if_neg hx, if_neg hx]
      unfold MpOf
      by_cases h1 : y = n1
      · subst h1; simp
      · by_cases h2 : y = n2
        · subst h2; simp [h1]
        · simp [h1, h2]
  rw [e] at F; exact F
theorem open3 (F : Fr h₀ L h (fun y => if y = x then v else MpOf [n1, n2, n3] m₀ c y)) (e1 : c.2 n1 = w1) (e2 : c.2 n2 = w2) (e3 : c.2 n3 = w3) :
    Fr h₀ L h (fun y => if y = x then v else if y = n1 then w1 else if y = n2 then w2 else if y = n3 then w3 else m₀ y) := by
  subst e1 e2 e3
  have e : (fun y => if y = x then v else MpOf [n1, n2, n3] m₀ c y) = fun y => if y = x then v else if y = n1 then c.2 n1 else if y = n2 then c.2 n2 else if y = n3 then c.2 n3 else m₀ y := by
    funext y
    by_cases hx : y = x
    · rw [if_pos hx, if_pos hx]
    · rw [if_neg hx, if_neg hx]
      unfold MpOf
      by_cases h1 : y = n1
      · subst h1; simp
      · by_cases h2 : y = n2
        · subst h2; simp [h1]
        · by_cases h3 : y = n3
          · subst h3; simp [h1, h2]
          · simp [h1, h2, h3]
  rw [e] at F; exact F
end
end
section
-- NumDmp
set_option maxHeartbeats 1000000
open PySem.Builtin.Int (intBits)
/-- one step of the long division: the next digit brought down -/
theorem long_step {n : Nat} {b r d Q V : Int} (hb : 0 < b) (hr0 : 0 ≤ r) (hr1 : r < b) (hd0 : 0 ≤ d) (hd1 : d < 2 ^ n) (hV : V = Q * b + r) :
    0 ≤ r * 2 ^ n + d ∧ r * 2 ^ n + d < b * 2 ^ n ∧ 0 ≤ (r * 2 ^ n + d).fmod b ∧ (r * 2 ^ n + d).fmod b < b ∧ 0 ≤ (r * 2 ^ n + d).fdiv b ∧ (r * 2 ^ n + d).fdiv b < 2 ^ n ∧
    d + 2 ^ n * V = ((r * 2 ^ n + d).fdiv b + 2 ^ n * Q) * b + (r * 2 ^ n + d).fmod b := by
  have hp := pow_pos2 n
  have h1 : 0 ≤ r * 2 ^ n := Int.mul_nonneg hr0 (Int.le_of_lt hp)
  have h2 : (r + 1) * 2 ^ n ≤ b * 2 ^ n := Int.mul_le_mul_of_nonneg_right (by omega) (Int.le_of_lt hp)
  rw [Int.add_mul, Int.one_mul] at h2
  have f := fdm_facts (r * 2 ^ n + d) hb
  have h3 : 0 ≤ (r * 2 ^ n + d).fdiv b := Int.fdiv_nonneg (by omega) (Int.le_of_lt hb)
  refine ⟨by omega, by omega, f.2.1, f.2.2, h3, ?_, ?_⟩
  · refine Int.lt_of_not_ge fun hge => ?_
    have := Int.mul_le_mul_of_nonneg_right hge (Int.le_of_lt hb)
    rw [Int.mul_comm (2 ^ n) b] at this
    omega
  · subst hV
    have f1 := f.1
    generalize (r * 2 ^ n + d).fdiv b = q1 at *
    generalize (r * 2 ^ n + d).fmod b = r1 at *
    grind
theorem drop_next {ds : List Int} {i : Nat} (h : i < ds.length) : ds.drop (ds.length - (i + 1)) = ds[ds.length - 1 - i]'(by omega) :: ds.drop (ds.length - i) := by
  have e : ds.length - (i + 1) = ds.length - 1 - i := by omega
  rw [e, List.drop_eq_getElem_cons (by omega)]
  congr 2; omega
end
section
-- NumSeg
set_option maxHeartbeats 1000000

/-- the frame that waits for a loop of a generator's own -/
def ownK (env : Env) (K : Flow → Sem Fin) (H : Value → Sem Fin) (gd : Bool → Bool) (lv : List Value → List Value) (r : Result) : Sem Fin :=
  ((match r with | .ok f => (.pure f : Sem Flow) | .error e => .raise e).onRaise fun (x : Value) => do
        if (← field x 1) == Value.none then unsupported "frame.own-activation:exception-without-traceback"
        setFlight x env.frame).wrap K H gd lv

section
variable {M : Model} {A : Around} {R : GenEnd} {Y : Protocol} {n : Nat} {s₀ : Shared} {c : Code} {fs : List Frame} {s : Shared} {env : Env}
  {K : Flow → Sem Fin} {H : Value → Sem Fin} {gd : Bool → Bool} {lv : List Value → List Value}
theorem seg_For {target iter : Expr} {body orelse : List Stmt} {pos : Pos} (hs : ∀ x, foldedSetIterable iter env x = pure x)
    (h : wpAny M (A.over c fs) (eval iter env) (fun x s₁ => wpAny M (A.over c fs) (pyIter x) (fun it s₂ => ∀ p, Seg M A R Y n s₀ (.forLoop target it body orelse env) (M.den (.forLoop target it body orelse env))
      (.ret (ownK env K H gd lv) none (gd false) (lv []) c p [] :: fs) s₂) (fun _ _ => False) s₁) (fun _ _ => False) s) :
    Seg M A R Y n s₀ c ((exec (.For target iter body orelse pos) env).wrap K H gd lv) fs s := by
  rw [exec_For]
  refine seg_bind_wrap (wpAny_standAt (seg_bind_wrap (wpAny_mono h (fun x s₁ h₁ => ?_) fun _ _ e => e.elim)))
  refine seg_bind_wrap (wpAny_of_eq (hs x) (seg_bind_wrap (wpAny_standAt (seg_bind_wrap (wpAny_holding (wpAny_mono h₁ (fun it s₂ h₂ => ?_) fun _ _ e => e.elim))))))
  exact seg_call h₂
theorem seg_If {test : Expr} {body orelse : List Stmt} {pos : Pos}
    (h : wpAny M (A.over c fs) (isTrue test env (eval test env)) (fun b s₁ => if b = true then Seg M A R Y n s₀ c ((execs body env).wrap K H gd lv) fs s₁ else Seg M A R Y n s₀ c ((execs orelse env).wrap K H gd lv) fs s₁) (fun _ _ => False) s) :
    Seg M A R Y n s₀ c ((exec (.If test body orelse pos) env).wrap K H gd lv) fs s := by
  rw [exec_If]
  refine seg_bind_wrap (wpAny_standAt (seg_bind_wrap (wpAny_mono h (fun b s₁ h₁ => ?_) fun _ _ e => e.elim)))
  cases b <;> exact h₁
theorem seg_stmt {st : Stmt} (h : wpAny M (A.over c fs) (exec st env) (fun f s₁ => Seg M A R Y n s₀ c (K f) fs s₁) (fun _ _ => False) s) :
    Seg M A R Y n s₀ c ((exec st env).wrap K H gd lv) fs s := seg_wrap (wpAny_mono h (fun _ _ h => h) fun _ _ e => e.elim)
end
section
variable {prog : Program} {w : World} {A : Around} {R : GenEnd} {Y : Protocol} {n : Nat} {s₀ : Shared} {fs : List Frame} {s : Shared} {env : Env}
/-- behind a turn's body -/
def turnK (target : Expr) (it : Value) (body orelse : List Stmt) (env : Env) (f : Flow) : Sem Fin :=
  match f with
  | .next | .cont => .pure (.again (.forLoop target it body orelse env))
  | .brk => .pure (.done .next)
  | .ret v => .pure (.done (.ret v))
def notedH (env : Env) (e : Value) : Sem Fin := (do noteFrame e env; theTreesLotGoes e : Sem Unit).wrap (fun _ => .raise e) .raise id id
theorem seg_forLoop {target : Expr} {it : Value} {body orelse : List Stmt}
    (h : wpAny (model prog w) (A.over (.forLoop target it body orelse env) fs) (pyNext it) (fun r s₁ => match r with
      | none => Seg (model prog w) A R Y n s₀ (.block orelse env) ((model prog w).den (.block orelse env)) fs s₁
      | some v => wpAny (model prog w) (A.over (.forLoop target it body orelse env) fs) (letOwnedTupleGo target it v) (fun _ s₂ => wpAny (model prog w) (A.over (.forLoop target it body orelse env) fs) (assign target env v) (fun _ s₃ =>
          Seg (model prog w) A R Y n s₀ (.forLoop target it body orelse env) ((execs body env).wrap (turnK target it body orelse env) (notedH env) id id) fs s₃) (fun _ _ => False) s₂) (fun _ _ => False) s₁) (fun _ _ => False) s) :
    Seg (model prog w) A R Y n s₀ (.forLoop target it body orelse env) ((model prog w).den (.forLoop target it body orelse env)) fs s := by
  show Seg _ A R Y n s₀ _ ((forTurn target it body orelse env).onRaise (fun x => do noteFrame x env; theTreesLotGoes x)) fs s
  rw [Sem.onRaise_eq_wrap]
  unfold forTurn
  refine seg_bind_wrap (wpAny_standAt (seg_bind_wrap (wpAny_onRaise (wpAny_mono h (fun r s₁ h₁ => ?_) fun _ _ e => e.elim))))
  cases r with
  | none => exact seg_again rfl h₁
  | some v =>
    refine seg_bind_wrap (wpAny_mono h₁ (fun _ s₂ h₂ => seg_bind_wrap (wpAny_mono h₂ (fun _ s₃ h₃ => ?_) fun _ _ e => e.elim)) fun _ _ e => e.elim)
    rw [Sem.bind_eq_wrap', Sem.wrap_wrap]
    rw [Sem.wrap_congr (execs body env) _ _ (K' := turnK target it body orelse env) (H' := notedH env) (fun f => by cases f <;> rfl)
      (fun e => by first | exact Sem.bind_eq_wrap _ _ | (show (do noteFrame e env; theTreesLotGoes e : Sem Unit).bind (fun _ => .raise e) = _; rw [Sem.bind_eq_wrap]; rfl))]
    exact h₃
/-- the loop has run out: the frame that waits goes on -/
theorem seg_block_nil {K : Flow → Sem Fin} {H : Value → Sem Fin} {gd : Bool → Bool} {lv : List Value → List Value} {c : Code} {p : Pos} {hd : Option Value} {g : Bool} {l : List Value}
    (h : Seg (model prog w) A R Y n s₀ c (K .next) fs s) :
    Seg (model prog w) A R Y n s₀ (.block [] env) ((model prog w).den (.block [] env)) (.ret (ownK env K H gd lv) hd g l c p [] :: fs) s :=
  seg_leaf (.ok .next) h
end

/-- what _iter_escaped_chars yields, from letter i on -/
def escY : List Nat → Nat → Bool → List (Nat × List Nat)
  | [], i, esc => if esc = true then [(i - 1, [92])] else []
  | c :: cs, i, true => (i, [92, c]) :: escY cs (i + 1) false
  | c :: cs, i, false => if c = 92 then escY cs (i + 1) true else (i, [c]) :: escY cs (i + 1) false

def YieldIs (y : Nat × List Nat) (T : Addr) (h : Heap) : Prop := ∃ t u, h.IsTuple T #[.int (y.1 : Int) t, .str ⟨y.2.toArray⟩ u]
def escProto (C e it : Addr) (ys : List (Nat × List Nat)) : Protocol := fun m s₀ v s kap =>
  (∃ y T, ys[ys.length - 1 - m]? = some y ∧ v = .ref T ∧ YieldIs y T s.heap) ∧ GenSince C [e, it] s₀ s ∧
    ∀ s'' : Shared, (∀ b ∈ [C, e, it], ∀ o, s.heap.get? b = some o → s''.heap.get? b = some o) → kap (.send .none) s''

/-- the pieces of the loop's body, each by what it does -/
structure EscBody (prog : Program) (w : World) (env : Env) (test1 test2 e1 e2 e3 : Expr) (st1 st2 : Stmt) : Prop where
  t1 : ∀ (A' : Around) E' (s : Shared) m b, A'.handled = none → s.heap.Ns env.locals m → m (Str.ofString "escape") = some (.bool b) → wpAny (model prog w) A' (isTrue test1 env (eval test1 env)) (fun r s' => r = b ∧ Keeps s s') E' s
  t2 : ∀ (A' : Around) E' (s : Shared) m c u, A'.handled = none → s.heap.Ns env.locals m → m (Str.ofString "ch") = some (.str ⟨#[c]⟩ u) → wpAny (model prog w) A' (isTrue test2 env (eval test2 env)) (fun r s' => r = decide (c = 92) ∧ Keeps s s') E' s
  y1 : ∀ (A' : Around) E' (s : Shared) m (i : Nat) t c u, A'.handled = none → s.heap.Ns env.locals m → m (Str.ofString "pos") = some (.int (i : Int) t) → m (Str.ofString "ch") = some (.str ⟨#[c]⟩ u) → wpAny (model prog w) A' (eval e1 env) (fun v s' => ∃ T, v = .ref T ∧ YieldIs (i, [92, c]) T s'.heap ∧ Keeps s s') E' s
  y2 : ∀ (A' : Around) E' (s : Shared) m (i : Nat) t c u, A'.handled = none → s.heap.Ns env.locals m → m (Str.ofString "pos") = some (.int (i : Int) t) → m (Str.ofString "ch") = some (.str ⟨#[c]⟩ u) → wpAny (model prog w) A' (eval e2 env) (fun v s' => ∃ T, v = .ref T ∧ YieldIs (i, [c]) T s'.heap ∧ Keeps s s') E' s
  y3 : ∀ (A' : Around) E' (s : Shared) m (i : Nat) t, A'.handled = none → s.heap.Ns env.locals m → m (Str.ofString "pos") = some (.int (i : Int) t) → wpAny (model prog w) A' (eval e3 env) (fun v s' => ∃ T, v = .ref T ∧ YieldIs (i, [92]) T s'.heap ∧ Keeps s s') E' s
  a1 : ∀ (A' : Around) E' (s : Shared) m, A'.handled = none → s.heap.Ns env.locals m → wpAny (model prog w) A' (exec st1 env) (fun f s' => f = .next ∧ ∃ h' tk, s' = { s with heap := h', toks := tk } ∧ h'.Ns env.locals (fun y => if y = Str.ofString "escape" then some (.bool false) else m y) ∧ Heap.ExtBut env.locals s.heap h') E' s
  a2 : ∀ (A' : Around) E' (s : Shared) m, A'.handled = none → s.heap.Ns env.locals m → wpAny (model prog w) A' (exec st2 env) (fun f s' => f = .next ∧ ∃ h' tk, s' = { s with heap := h', toks := tk } ∧ h'.Ns env.locals (fun y => if y = Str.ofString "escape" then some (.bool true) else m y) ∧ Heap.ExtBut env.locals s.heap h') E' s

def escStmts (test1 test2 e1 e2 : Expr) (st1 st2 : Stmt) (p1 p2 p3 p4 p5 p6 : Pos) : List Stmt :=
  [.If test1 [.Expr (.Yield (some e1) p1) p2, st1] [.If test2 [st2] [.Expr (.Yield (some e2) p3) p4] p5] p6]

theorem esc_here {ys pre rest : List (Nat × List Nat)} {y : Nat × List Nat} (h : ys = pre ++ y :: rest) : ys[ys.length - 1 - rest.length]? = some y := by
  subst h
  rw [List.length_append, List.length_cons]
  have : pre.length + (rest.length + 1) - 1 - rest.length = pre.length := by omega
  rw [this, List.getElem?_append_right (Nat.le_refl _), Nat.sub_self]; rfl

abbrev escR (C e it : Addr) : GenEnd := fun n s₀ r s₁ => r = .ok (.ret .none) ∧ (n = 0 ∧ GenSince C [e, it] s₀ s₁)

section
variable {prog : Program} {w : World} {A : Around}
theorem seg_escLoop {env : Env} {xi xc : Str} {pk pv pt : Pos} {x1 : Nat} {test1 test2 e1 e2 e3 : Expr} {st1 st2 : Stmt} {p1 p2 p3 p4 p5 p6 : Pos} {x : Str} {tx : Tok} {e it : Addr} {c₀ : Code} {kp : Pos} {K : Flow → Sem Fin} {H : Value → Sem Fin} {gd : Bool → Bool} {lv : List Value → List Value} {l : List Value}
    (hgd : gd false = false) (hh : A.handled = none) (hei : e ≠ it) (hCe : env.locals ≠ e) (hCi : env.locals ≠ it)
    (exi : xi = Str.ofString "pos") (exc : xc = Str.ofString "ch") (hxi : env.kindOf xi = some .local) (hxc : env.kindOf xc = some .local)
    (hp : (env.scope.kind == .class || (env.scope.kind == .module && env.locals != env.globals)) = false) (hco : env.scope.isCoroutine = false) (hint : interactive env = false)
    (hB : EscBody prog w env test1 test2 e1 e2 e3 st1 st2) (ys : List (Nat × List Nat))
    (after : ∀ esc s₀ s m, s.heap.Ns env.locals m → m (Str.ofString "escape") = some (.bool esc) → (esc = true → 0 < x.cps.size ∧ ∃ t, m (Str.ofString "pos") = some (.int ((x.cps.size - 1 : Nat) : Int) t)) → GenSince env.locals [e, it] s₀ s →
      (∃ pre, ys = pre ++ escY [] x.cps.size esc) → Seg (model prog w) A (escR env.locals e it) (escProto env.locals e it ys) (escY [] x.cps.size esc).length s₀ c₀ (K .next) [] s) :
    ∀ (k i : Nat) (esc : Bool) (s₀ s : Shared) (m : Str → Option Value), x.cps.size - i = k → i ≤ x.cps.size → (∃ old, IsEnum s.heap e it i old) → s.heap.IsStrIter it "str_ascii_iterator" x tx i →
      s.heap.Ns env.locals m → m (Str.ofString "escape") = some (.bool esc) → (esc = true → 0 < i ∧ ∃ t, m (Str.ofString "pos") = some (.int ((i - 1 : Nat) : Int) t)) → GenSince env.locals [e, it] s₀ s →
      (∃ pre, ys = pre ++ escY (x.cps.toList.drop i) i esc) →
      Seg (model prog w) A (escR env.locals e it) (escProto env.locals e it ys) (escY (x.cps.toList.drop i) i esc).length s₀
        (.forLoop (.Tuple [.Name xi pk, .Name xc pv] x1 pt) (.ref e) (escStmts test1 test2 e1 e2 st1 st2 p1 p2 p3 p4 p5 p6) [] env)
        ((model prog w).den (.forLoop (.Tuple [.Name xi pk, .Name xc pv] x1 pt) (.ref e) (escStmts test1 test2 e1 e2 st1 st2 p1 p2 p3 p4 p5 p6) [] env)) [.ret (ownK env K H gd lv) none (gd false) l c₀ kp []] s := by
  have W : ∀ A' : Around, A'.handled = none → WalksT prog w A' e [e, it] [e, it] x.cps.size _ _ _ := fun A' h' =>
    WalksT.enumerateD (A := A') (Draws.strAscii (A := A'.in1) h' it x tx) e hei (fun h => hei (List.mem_singleton.mp h)) (List.mem_singleton.mpr rfl)
  intro k
  induction k with
  | zero =>
    intro i esc s₀ s m hk hi hen hit hn hesc hpos hsince hpre
    have hin : i = x.cps.size := by omega
    subst hin
    have ed : x.cps.toList.drop x.cps.size = [] := List.drop_of_length_le (by simp)
    rw [ed] at hpre ⊢
    refine seg_forLoop ((W _ (by exact hh)).done s _ _ ⟨hen, hit⟩ fun h' tk hk' => ?_)
    refine seg_block_nil (after esc s₀ _ m (hn.at' fun o e1 => hk' _ o ?_ e1) hesc hpos (hsince.step fun b o _ hw e1 => hk' b o hw e1) hpre)
    intro hm
    rcases List.mem_cons.mp hm with q | q
    · exact hCe q
    · exact hCi (List.mem_singleton.mp q)
  | succ k ih =>
    intro i esc s₀ s m hk hi hen hit hn hesc hpos hsince hpre
    have hlt : i < x.cps.size := by omega
    have hcs : x.cps[i]? = some x.cps[i] := Array.getElem?_eq_getElem hlt
    have hdrop : x.cps.toList.drop i = x.cps[i] :: x.cps.toList.drop (i + 1) := by
      rw [List.drop_eq_getElem_cons (by simpa using hlt)]; simp
    have hCw : env.locals ∉ [e, it] := fun hm => by
      rcases List.mem_cons.mp hm with q | q
      · exact hCe q
      · exact hCi (List.mem_singleton.mp q)
    refine seg_forLoop ((W _ (by exact hh)).item i s _ _ hlt ⟨hen, hit⟩ fun T vals h₁ tk₁ hPt _ hT hMid hk₁ => ?_)
    obtain ⟨t, v, ⟨c, u, hc, rfl⟩, rfl⟩ := hPt
    rw [hcs] at hc
    obtain rfl := Option.some.inj hc
    refine (W _ (by exact hh)).go _ x1 pt i T _ _ _ hMid fun h₂ hst₂ hk₂ => ?_
    have ht₂ := hT.at fun o e => hk₂ T o ((W _ hh).apart i T h₁ hMid) e
    refine wpAny_assign_Tuple (by exact hh) ht₂ rfl rfl fun h₃ hx₃ => ?_
    replace hx₃ : Heap.ExtBut h₂.objs.size h₂ h₃ := hx₃
    have up₃ : ∀ b o, h₂.get? b = some o → h₃.get? b = some o := fun b o x => hx₃ b o (Nat.ne_of_lt (Heap.lt_size x)) x
    have hn₃ : h₃.Ns env.locals m := hn.at' fun o x => up₃ _ o (hk₂ _ o hCw (hk₁ _ o hCw x))
    subst exi exc
    show wpAny _ _ (do holding [.str ⟨#[x.cps[i]]⟩ u] (assign (.Name _ pk) env (.int i t)); do holding [] (assign (.Name _ pv) env (.str ⟨#[x.cps[i]]⟩ u)); pure ()) _ _ _
    refine wpAny_bind (wpAny_holding (wpAny_assign_Name (wpAny_storeName_local hxi hn₃ (fun h₄ hn₄ hs₄ => ?_) hp)))
    replace hs₄ : Heap.SameBut env.locals h₃ h₄ := hs₄
    refine wpAny_bind (wpAny_holding (wpAny_assign_Name (wpAny_storeName_local hxc hn₄ (fun h₅ hn₅ hs₅ => wpAny_pure ?_) hp)))
    replace hs₅ : Heap.SameBut env.locals h₄ h₅ := hs₅
    have up₅ : ∀ b o, b ≠ env.locals → h₂.get? b = some o → h₅.get? b = some o := fun b o q x => hs₅.extBut b o q (hs₄.extBut b o q (up₃ b o x))
    obtain ⟨⟨old, hen₂⟩, hit₂⟩ := hst₂
    have hen₅ : IsEnum h₅ e it ((i + 1 : Nat) : Int) old := up₅ _ _ hCe.symm hen₂
    have hit₅ : h₅.IsStrIter it "str_ascii_iterator" x tx (i + 1) := let ⟨o, ho, r⟩ := hit₂; ⟨o, up₅ _ _ hCi.symm ho, r⟩
    have hsince₅ : GenSince env.locals [e, it] s₀ { s with heap := h₅, toks := tk₁ } := hsince.step fun b o q hw y => up₅ b o q (hk₂ b o hw (hk₁ b o hw y))
    have hfg : ([.ret (ownK env K H gd lv) none (gd false) l c₀ kp []] : List Frame).any Frame.guarded = false := by rw [hgd]; rfl
    have hesc₅ : (fun y => if y = Str.ofString "ch" then some (Value.str ⟨#[x.cps[i]]⟩ u) else if y = Str.ofString "pos" then some (.int (i : Int) t) else m y) (Str.ofString "escape") = some (.bool esc) := hesc
    have again : ∀ (esc' : Bool) (s₀' s' : Shared) m', s'.heap.Ns env.locals m' → m' (Str.ofString "escape") = some (.bool esc') → (∃ t, m' (Str.ofString "pos") = some (.int (i : Int) t)) →
        (∀ b ∈ [e, it], ∀ o, h₅.get? b = some o → s'.heap.get? b = some o) → GenSince env.locals [e, it] s₀' s' → (∃ pre, ys = pre ++ escY (x.cps.toList.drop (i + 1)) (i + 1) esc') →
        Seg (model prog w) A (escR env.locals e it) (escProto env.locals e it ys) (escY (x.cps.toList.drop (i + 1)) (i + 1) esc').length s₀'
        (.forLoop (.Tuple [.Name (Str.ofString "pos") pk, .Name (Str.ofString "ch") pv] x1 pt) (.ref e) (escStmts test1 test2 e1 e2 st1 st2 p1 p2 p3 p4 p5 p6) [] env)
        (.pure (.again (.forLoop (.Tuple [.Name (Str.ofString "pos") pk, .Name (Str.ofString "ch") pv] x1 pt) (.ref e) (escStmts test1 test2 e1 e2 st1 st2 p1 p2 p3 p4 p5 p6) [] env))) [.ret (ownK env K H gd lv) none (gd false) l c₀ kp []] s' := by
      intro esc' s₀' s' m' hn' he' hp' hk' hs' hy'
      refine seg_again rfl (ih (i + 1) esc' s₀' s' m' (by omega) hlt ⟨old, hk' e (by simp) _ hen₅⟩ (let ⟨o, ho, r⟩ := hit₅; ⟨o, hk' it (by simp) _ ho, r⟩) hn' he' (fun _ => ⟨Nat.succ_pos i, ?_⟩) hs' hy')
      obtain ⟨t', ht'⟩ := hp'
      exact ⟨t', ht'⟩
    rw [hdrop] at hpre ⊢
    obtain ⟨pre, hpre⟩ := hpre
    refine seg_execs_cons (seg_If (wpAny_mono (hB.t1 _ _ _ _ esc (by exact hh) hn₅ hesc₅) (fun r s₆ h₆ => ?_) fun _ _ e => e))
    obtain ⟨rfl, h₆, tk₆, rfl, hk₆⟩ := h₆
    have hn₆ := hn₅.keeps hk₆
    have hsince₆ : GenSince env.locals [e, it] s₀ { s with heap := h₆, toks := tk₆ } := hsince₅.step fun b o _ _ y => hk₆ b o y
    cases r with
    | true =>
      rw [if_pos rfl]
      rw [escY] at hpre ⊢
      rw [List.length_cons]
      refine seg_execs_cons (seg_Expr_Yield rfl rfl hfg (wpAny_mono (hB.y1 _ _ _ _ i t _ u (by exact hh) hn₆ rfl rfl) (fun v s₇ h₇ => ?_) fun _ _ e => e) hco hint)
      obtain ⟨T', rfl, hY, h₇, tk₇, rfl, hk₇⟩ := h₇
      intro kap hkap
      refine ⟨⟨_, T', esc_here hpre, rfl, hY⟩, hsince₆.step fun b o _ _ y => hk₇ b o y, fun s'' hal => hkap .none s'' ?_⟩
      have hn'' : s''.heap.Ns env.locals _ := (hn₆.keeps hk₇).at' fun o y => hal _ (by simp) o y
      refine seg_execs_cons (seg_stmt (wpAny_mono (hB.a1 _ _ _ _ (by exact hh) hn'') (fun f s₈ h₈ => ?_) fun _ _ e => e))
      obtain ⟨rfl, h₈, tk₈, rfl, hn₈, hx₈⟩ := h₈
      refine seg_execs_nil (again false s'' _ _ hn₈ rfl ⟨t, rfl⟩ (fun b hb o y => ?_) ((GenSince.refl _ _ _).step fun b o q _ y => hx₈ b o q y) ⟨pre ++ [(i, [92, x.cps[i]])], by rw [hpre, List.append_assoc]; rfl⟩)
      refine hx₈ b o (fun q => hCw (q ▸ hb)) (hal b (List.mem_cons_of_mem _ hb) o (hk₇ b o (hk₆ b o y)))
    | false =>
      rw [if_neg Bool.false_ne_true]
      refine seg_execs_cons (seg_If (wpAny_mono (hB.t2 _ _ _ _ _ u (by exact hh) hn₆ rfl) (fun r s₇ h₇ => ?_) fun _ _ e => e))
      obtain ⟨rfl, h₇, tk₇, rfl, hk₇⟩ := h₇
      have hn₇ := hn₆.keeps hk₇
      have hsince₇ : GenSince env.locals [e, it] s₀ { s with heap := h₇, toks := tk₇ } := hsince₆.step fun b o _ _ y => hk₇ b o y
      by_cases h92 : x.cps[i] = 92
      · rw [if_pos (decide_eq_true h92)]
        rw [escY, if_pos h92] at hpre ⊢
        refine seg_execs_cons (seg_stmt (wpAny_mono (hB.a2 _ _ _ _ (by exact hh) hn₇) (fun f s₈ h₈ => ?_) fun _ _ e => e))
        obtain ⟨rfl, h₈, tk₈, rfl, hn₈, hx₈⟩ := h₈
        refine seg_execs_nil (seg_execs_nil (again true s₀ _ _ hn₈ rfl ⟨t, rfl⟩ (fun b hb o y => ?_) (hsince₇.step fun b o q _ y => hx₈ b o q y) ⟨pre, hpre⟩))
        exact hx₈ b o (fun q => hCw (q ▸ hb)) (hk₇ b o (hk₆ b o y))
      · rw [if_neg (fun q => h92 (of_decide_eq_true q))]
        rw [escY, if_neg h92] at hpre ⊢
        rw [List.length_cons]
        refine seg_execs_cons (seg_Expr_Yield rfl rfl hfg (wpAny_mono (hB.y2 _ _ _ _ i t _ u (by exact hh) hn₇ rfl rfl) (fun v s₈ h₈ => ?_) fun _ _ e => e) hco hint)
        obtain ⟨T', rfl, hY, h₈, tk₈, rfl, hk₈⟩ := h₈
        intro kap hkap
        refine ⟨⟨_, T', esc_here hpre, rfl, hY⟩, hsince₇.step fun b o _ _ y => hk₈ b o y, fun s'' hal => hkap .none s'' ?_⟩
        have hn'' : s''.heap.Ns env.locals _ := (hn₇.keeps hk₈).at' fun o y => hal _ (by simp) o y
        refine seg_execs_nil (seg_execs_nil (again false s'' _ _ hn'' ?_ ⟨t, rfl⟩ (fun b hb o y => ?_) (GenSince.refl _ _ _) ⟨pre ++ [(i, [x.cps[i]])], by rw [hpre, List.append_assoc]; rfl⟩))
        · exact hesc₅
        · exact hal b (List.mem_cons_of_mem _ hb) o (hk₈ b o (hk₇ b o (hk₆ b o y)))

/-- the generator's body, whole: what stands ahead of its loop and behind it -/
structure EscHead (prog : Program) (w : World) (hb : Heap) (env : Env) (stA stB : Stmt) (itx test3 : Expr) : Prop where
  hA : ∀ (A' : Around) E' (s : Shared) m, A'.handled = none → s.heap.Ns env.locals m → wpAny (model prog w) A' (exec stA env) (fun f s' => f = .next ∧ ∃ h' tk tp, s' = { s with heap := h', toks := tk } ∧ h'.Ns env.locals (fun y => if y = Str.ofString "pos" then some (.int 0 tp) else m y) ∧ Heap.SameBut env.locals s.heap h') E' s
  hB : ∀ (A' : Around) E' (s : Shared) m, A'.handled = none → s.heap.Ns env.locals m → wpAny (model prog w) A' (exec stB env) (fun f s' => f = .next ∧ ∃ h' tk, s' = { s with heap := h', toks := tk } ∧ h'.Ns env.locals (fun y => if y = Str.ofString "escape" then some (.bool false) else m y) ∧ Heap.SameBut env.locals s.heap h') E' s
  hI : ∀ (A' : Around) E' (s : Shared) m (x : Str) t, A'.handled = none → s.heap.Ns env.locals m → m (Str.ofString "addr") = some (.str x t) → strIterType x = "str_ascii_iterator" → (∀ b o, hb.get? b = some o → s.heap.get? b = some o) → wpAny (model prog w) A' (eval itx env) (fun v s' => ∃ h' tk, v = .ref (s.heap.objs.size + 1) ∧
      s' = { s with heap := h', toks := tk } ∧ IsEnum h' (s.heap.objs.size + 1) s.heap.objs.size 0 .none ∧ h'.IsStrIter s.heap.objs.size "str_ascii_iterator" x t 0 ∧ ∀ b o, s.heap.get? b = some o → h'.get? b = some o) E' s
  t3 : ∀ (A' : Around) E' (s : Shared) m b, A'.handled = none → s.heap.Ns env.locals m → m (Str.ofString "escape") = some (.bool b) → wpAny (model prog w) A' (isTrue test3 env (eval test3 env)) (fun r s' => r = b ∧ Keeps s s') E' s
  fold : ∀ x, foldedSetIterable itx env x = pure x

theorem seg_escGen {env : Env} {pk pv pt : Pos} {x1 : Nat} {test1 test2 e1 e2 e3 itx test3 : Expr} {st1 st2 stA stB : Stmt} {p1 p2 p3 p4 p5 p6 p7 p8 p9 p10 : Pos} {x : Str} {tx : Tok}
    (hh : A.handled = none)
    (hxi : env.kindOf (Str.ofString "pos") = some .local) (hxc : env.kindOf (Str.ofString "ch") = some .local)
    (hp : (env.scope.kind == .class || (env.scope.kind == .module && env.locals != env.globals)) = false) (hco : env.scope.isCoroutine = false) (hint : interactive env = false)
    (hB : EscBody prog w env test1 test2 e1 e2 e3 st1 st2) {hb : Heap} (hH : EscHead prog w hb env stA stB itx test3) (hasc : strIterType x = "str_ascii_iterator")
    (s : Shared) (m : Str → Option Value) (hn : s.heap.Ns env.locals m) (ha : m (Str.ofString "addr") = some (.str x tx)) (hC : env.locals < s.heap.objs.size) (hbk : ∀ b o, hb.get? b = some o → s.heap.get? b = some o) (hbC : hb.get? env.locals = none) :
    Seg (model prog w) A (escR env.locals (s.heap.objs.size + 1) s.heap.objs.size) (escProto env.locals (s.heap.objs.size + 1) s.heap.objs.size (escY x.cps.toList 0 false)) (escY x.cps.toList 0 false).length s
      (.func [stA, stB, .For (.Tuple [.Name (Str.ofString "pos") pk, .Name (Str.ofString "ch") pv] x1 pt) itx (escStmts test1 test2 e1 e2 st1 st2 p1 p2 p3 p4 p5 p6) [] p7, .If test3 [.Expr (.Yield (some e3) p8) p9] [] p10] env)
      ((model prog w).den (.func [stA, stB, .For (.Tuple [.Name (Str.ofString "pos") pk, .Name (Str.ofString "ch") pv] x1 pt) itx (escStmts test1 test2 e1 e2 st1 st2 p1 p2 p3 p4 p5 p6) [] p7, .If test3 [.Expr (.Yield (some e3) p8) p9] [] p10] env)) [] s := by
  have hCi : env.locals ≠ s.heap.objs.size := Nat.ne_of_lt hC
  have hCe : env.locals ≠ s.heap.objs.size + 1 := Nat.ne_of_lt (Nat.lt_succ_of_lt hC)
  have hbne : ∀ b o, hb.get? b = some o → b ≠ env.locals := fun b o q e => by rw [e, hbC] at q; cases q
  refine seg_func (seg_execs_cons (seg_stmt (wpAny_mono (hH.hA _ _ _ _ (by exact hh) hn) (fun f s₁ h₁ => ?_) fun _ _ e => e)))
  obtain ⟨rfl, h₁, tk₁, tp₁, rfl, hn₁, hs₁⟩ := h₁
  refine seg_execs_cons (seg_stmt (wpAny_mono (hH.hB _ _ _ _ (by exact hh) hn₁) (fun f s₂ h₂ => ?_) fun _ _ e => e))
  obtain ⟨rfl, h₂, tk₂, rfl, hn₂, hs₂⟩ := h₂
  have hsz : h₂.objs.size = s.heap.objs.size := hs₂.1.trans hs₁.1
  refine seg_execs_cons (seg_For hH.fold (wpAny_mono (hH.hI _ _ _ _ x tx (by exact hh) hn₂ ha hasc (fun b o q => (hs₂.2 b (hbne b o q)).trans ((hs₁.2 b (hbne b o q)).trans (hbk b o q)))) (fun v s₃ h₃ => ?_) fun _ _ e => e))
  obtain ⟨h₃, tk₃, rfl, rfl, hen, hit, hk₃⟩ := h₃
  simp only [hsz] at hen hit ⊢
  refine wpAny_pyIter_enum hen (fun p => ?_)
  have hsince : ∀ tk, GenSince env.locals [s.heap.objs.size + 1, s.heap.objs.size] s { s with heap := h₃, toks := tk } := fun tk =>
    (GenSince.refl _ _ s).step fun b o hb _ e => hk₃ _ _ ((hs₂.2 b hb).trans ((hs₁.2 b hb).trans e))
  refine seg_escLoop (gd := id) rfl hh (Nat.succ_ne_self _) hCe hCi rfl rfl hxi hxc hp hco hint hB (escY x.cps.toList 0 false) ?_ _ 0 false s _ _ rfl (Nat.zero_le _) ⟨_, hen⟩ hit
    (hn₂.keeps hk₃) rfl (fun h => nomatch h) (hsince _) ⟨[], rfl⟩
  intro esc s₀ s₄ m₄ hn₄ hesc hpos hsince₄ hpre
  refine seg_execs_cons (seg_If (wpAny_mono (hH.t3 _ _ _ _ esc (by exact hh) hn₄ hesc) (fun r s₅ h₅ => ?_) fun _ _ e => e))
  obtain ⟨rfl, h₅, tk₅, rfl, hk₅⟩ := h₅
  have hn₅ := hn₄.keeps hk₅
  have hsince₅ := hsince₄.step (h' := h₅) (tk := tk₅) fun b o _ _ y => hk₅ b o y
  cases r with
  | true =>
    rw [if_pos rfl]
    obtain ⟨hpz, tp, hpp⟩ := hpos rfl
    obtain ⟨pre, hpre⟩ := hpre
    rw [escY, if_pos rfl] at hpre ⊢
    rw [List.length_cons]
    refine seg_execs_cons (seg_Expr_Yield rfl rfl rfl (wpAny_mono (hB.y3 _ _ _ _ _ tp (by exact hh) hn₅ hpp) (fun v s₆ h₆ => ?_) fun _ _ e => e) hco hint)
    obtain ⟨T', rfl, hY, h₆, tk₆, rfl, hk₆⟩ := h₆
    intro kap hkap
    refine ⟨⟨_, T', esc_here hpre, rfl, hY⟩, hsince₅.step fun b o _ _ y => hk₆ b o y, fun s'' hal => hkap .none s'' ?_⟩
    exact seg_execs_nil (seg_execs_nil (seg_end (.ok (.ret .none)) ⟨rfl, rfl, GenSince.refl _ _ _⟩))
  | false =>
    rw [if_neg Bool.false_ne_true]
    exact seg_execs_nil (seg_execs_nil (seg_end (.ok (.ret .none)) ⟨rfl, rfl, hsince₅⟩))
end
end
section
-- NumEsc
set_option maxHeartbeats 1000000
section
variable {prog : Program} {w : World} {env : Env}
theorem name_K {A : Around} {E : Value → Shared → Prop} {s : Shared} {x : Str} {p : Pos} {m : Str → Option Value} {v : Value} {Q : Value → Shared → Prop} (hk : env.scope.kind = .function) (hl : env.kindOf x = some .local) (hn : s.heap.Ns env.locals m) (hv : m x = some v) (hQ : Q v s)
    (hd : (x == ("__debug__" : Str)) = false := by decide) : wpAny (model prog w) A (eval (.Name x p) env) Q E s :=
  wpAny_Name (wpAny_loadName_local hk hl hn hv hQ) hd
theorem keeps_refl (s : Shared) : Keeps s s := ⟨s.heap, s.toks, rfl, fun _ _ e => e⟩
theorem keeps_toks (s : Shared) (tk : Nat) : Keeps s { s with toks := tk } := ⟨s.heap, tk, rfl, fun _ _ e => e⟩
theorem esc_eq (c : Nat) : ((⟨#[c]⟩ : Str) == Str.ofString "\\") = decide (c = 92) := by
  have e : Str.ofString "\\" = ⟨#[92]⟩ := by rfl
  rw [e]
  by_cases h : c = 92
  · subst h; rfl
  · rw [decide_eq_false h]
    refine beq_eq_false_iff_ne.mpr fun q => h ?_
    have := congrArg (fun z : Str => z.cps.toList) q
    simpa using this
theorem escBody (hk : env.scope.kind = .function) (h1 : env.kindOf (Str.ofString "pos") = some .local) (h2 : env.kindOf (Str.ofString "ch") = some .local) (h3 : env.kindOf (Str.ofString "escape") = some .local)
    {q1 q2 q3 q4 q5 q6 q7 q8 q9 q10 q11 q12 q13 q14 q15 q16 q17 q18 q19 q20 q21 : Pos} :
    EscBody prog w env (.Name (Str.ofString "escape") q1) (.Compare (.Name (Str.ofString "ch") q2) [.Eq] [.Constant (.str (Str.ofString "\\")) 0 q3] q4)
      (.Tuple [.Name (Str.ofString "pos") q5, .BinOp (.Constant (.str (Str.ofString "\\")) 0 q6) .Add (.Name (Str.ofString "ch") q7) q8] 0 q9)
      (.Tuple [.Name (Str.ofString "pos") q10, .Name (Str.ofString "ch") q11] 0 q12)
      (.Tuple [.Name (Str.ofString "pos") q13, .Constant (.str (Str.ofString "\\")) 0 q14] 0 q15)
      (.Assign [.Name (Str.ofString "escape") q16] (.Constant (.bool false) 0 q17) q18) (.Assign [.Name (Str.ofString "escape") q19] (.Constant (.bool true) 0 q20) q21) where
  t1 := fun A' E' s m b _ hn hv => wpAny_isTrue_value (name_K hk h3 hn hv (wpAny_truthy_bool ⟨rfl, keeps_refl _⟩))
  t2 := fun A' E' s m c u _ hn hv => wpAny_isTrue_Compare1 (name_K hk h2 hn hv (wpAny_Constant_str (eq_str (wpAny_truthy_bool ⟨esc_eq c, keeps_toks _ _⟩))))
  y1 := fun A' E' s m i t c u _ hn hp hv => wpAny_Tuple (wpAny_items_cons (name_K hk h1 hn hp (wpAny_items_cons (wpAny_BinOp (wpAny_Constant_str (name_K hk h2 hn hv (SB.add (fun t' k => wpAny_items_nil ⟨show 2 ≤ sizeLine by decide, _, rfl, ⟨_, _, _, Heap.get?_push_size _ rfl, rfl, _, rfl⟩, ⟨_, _, rfl, fun b o e => Heap.get?_push_of_some _ e⟩⟩) (show 2 ≤ sizeLine by decide)))))))) 
  y2 := fun A' E' s m i t c u _ hn hp hv => wpAny_Tuple (wpAny_items_cons (name_K hk h1 hn hp (wpAny_items_cons (name_K hk h2 hn hv (wpAny_items_nil ⟨show 2 ≤ sizeLine by decide, _, rfl, ⟨_, _, _, Heap.get?_push_size _ rfl, rfl, _, rfl⟩, ⟨_, _, rfl, fun b o e => Heap.get?_push_of_some _ e⟩⟩)))))
  y3 := fun A' E' s m i t _ hn hp => wpAny_Tuple (wpAny_items_cons (name_K hk h1 hn hp (wpAny_items_cons (wpAny_Constant_str (wpAny_items_nil ⟨show 2 ≤ sizeLine by decide, _, rfl, ⟨_, _, _, Heap.get?_push_size _ rfl, rfl, _, rfl⟩, ⟨_, _, rfl, fun b o e => Heap.get?_push_of_some _ e⟩⟩)))))
  a1 := fun A' E' s m _ hn => wpAny_Assign_Name (wpAny_Constant_bool (wpAny_storeName_local h3 hn (fun h' hn' hs' => ⟨rfl, h', _, rfl, hn', hs'.extBut⟩) (by rw [hk]; rfl)))
  a2 := fun A' E' s m _ hn => wpAny_Assign_Name (wpAny_Constant_bool (wpAny_storeName_local h3 hn (fun h' hn' hs' => ⟨rfl, h', _, rfl, hn', hs'.extBut⟩) (by rw [hk]; rfl)))

theorem escHead (hk : env.scope.kind = .function) (h1 : env.kindOf (Str.ofString "pos") = some .local) (h3 : env.kindOf (Str.ofString "escape") = some .local) (h4 : env.kindOf (Str.ofString "addr") = some .local)
    {q1 q2 q3 q4 q5 q6 q7 q8 q9 q10 : Pos} {hb : Heap} (hen : ∀ (A' : Around) E' (s : Shared) (Q : Value → Shared → Prop), (∀ b o, hb.get? b = some o → s.heap.get? b = some o) → Q (.type "enumerate") s → wpAny (model prog w) A' (eval (.Name (Str.ofString "enumerate") q7) env) Q E' s) :
    EscHead prog w hb env (.Assign [.Name (Str.ofString "pos") q1] (.Constant (.int 0) 0 q2) q3) (.Assign [.Name (Str.ofString "escape") q4] (.Constant (.bool false) 0 q5) q6)
      (.Call (.Name (Str.ofString "enumerate") q7) [.Name (Str.ofString "addr") q8] [] q9) (.Name (Str.ofString "escape") q10) where
  hA := fun A' E' s m _ hn => wpAny_Assign_Name (wpAny_Constant_int (wpAny_storeName_local h1 hn (fun h' hn' hs' => ⟨rfl, h', _, _, rfl, hn', hs'⟩) (by rw [hk]; rfl)))
  hB := fun A' E' s m _ hn => wpAny_Assign_Name (wpAny_Constant_bool (wpAny_storeName_local h3 hn (fun h' hn' hs' => ⟨rfl, h', _, rfl, hn', hs'⟩) (by rw [hk]; rfl)))
  hI := fun A' E' s m x t _ hn ha hasc hkb => by
    refine wpAny_Call_Name_kw (hen _ _ _ _ hkb ?_)
    refine PyProof.Rows.callWith_type1 (wpAny_items_cons (name_K hk h4 hn ha (wpAny_items_nil (call_enumerate_str fun h' he hit _ hkk => ⟨h', _, rfl, rfl, he, hasc ▸ hit, hkk⟩))))
  t3 := fun A' E' s m b _ hn hv => wpAny_isTrue_value (name_K hk h3 hn hv (wpAny_truthy_bool ⟨rfl, keeps_refl _⟩))
  fold := fun _ => rfl
end
end
section
-- NumPull
set_option maxHeartbeats 1000000
/-- a generator that waits: it goes on from every state that keeps what is its own -/
def EscWait (M : Model) (A : Around) (C e it : Addr) (ys : List (Nat × List Nat)) (k : Nat) (gs : GenState) (h : Heap) : Prop :=
  ∀ s'' : Shared, (∀ b ∈ [C, e, it], ∀ o, h.get? b = some o → s''.heap.get? b = some o) → gs.Goes M A (escR C e it) (escProto C e it ys) k (.send .none) s''
section
variable {prog : Program} {w : World} {A : Around} {E : Value → Shared → Prop} {s : Shared} {a g : Nat} {C e it : Addr} {ys : List (Nat × List Nat)} {gs : GenState} {Q : Option Value → Shared → Prop}
theorem pull_item {k : Nat} (hh : A.handled = none) (hl : s.heap.NoLimit) (hroom : A.depth < recursionLimit) (hg : s.heap.IsGen a g) (hgs : s.gens[g]? = some gs)
    (hgo : gs.Goes (model prog w) A.in1 (escR C e it) (escProto C e it ys) (k + 1) (.send .none) (s.setGen g .running))
    (hQ : ∀ T y gs' h' tk, ys[ys.length - 1 - k]? = some y → YieldIs y T h' → (∀ b o, b ∉ [C, e, it] → s.heap.get? b = some o → h'.get? b = some o) → EscWait (model prog w) A.in1 C e it ys k gs' h' →
      Q (some (.ref T)) { s with heap := h', toks := tk, gens := s.gens.setIfInBounds g gs' }) : wpAny (model prog w) A (pyNext (.ref a)) Q E s := by
  refine wpAny_pyNext_gen (n := k + 1) (P := fun n s₀ s₁ => n = 0 ∧ GenSince C [e, it] s₀ s₁) hh hl hroom hg hgs hgo ?_ ?_
  · rintro v s₁ gs' ⟨⟨y, T, hy, rfl, hY⟩, ⟨h', tk, rfl, hk⟩, hal⟩
    have := hQ T y gs' h' tk hy hY (fun b o hb => hk b o (fun q => hb (q ▸ List.mem_cons_self ..)) fun q => hb (List.mem_cons_of_mem _ q)) (fun s'' hs => hal s'' hs)
    show Q _ { s with heap := h', toks := tk, gens := (s.gens.setIfInBounds g .running).setIfInBounds g gs' }
    rw [Array.setIfInBounds_setIfInBounds]
    exact this
  · rintro s₁ ⟨h0, _⟩
    exact absurd h0 (Nat.succ_ne_zero k)
theorem pull_done (hh : A.handled = none) (hl : s.heap.NoLimit) (hroom : A.depth < recursionLimit) (hg : s.heap.IsGen a g) (hgs : s.gens[g]? = some gs)
    (hgo : gs.Goes (model prog w) A.in1 (escR C e it) (escProto C e it ys) 0 (.send .none) (s.setGen g .running))
    (hQ : ∀ h' tk, (∀ b o, b ∉ [C, e, it] → s.heap.get? b = some o → h'.get? b = some o) → Q none { s with heap := h', toks := tk, gens := s.gens.setIfInBounds g .finished }) : wpAny (model prog w) A (pyNext (.ref a)) Q E s := by
  refine wpAny_pyNext_gen (n := 0) (P := fun n s₀ s₁ => n = 0 ∧ GenSince C [e, it] s₀ s₁) hh hl hroom hg hgs hgo ?_ ?_
  · rintro v s₁ gs' ⟨_, _, hal⟩
    exact (hal s₁ fun _ _ _ e => e).elim
  · rintro s₁ ⟨_, h₁, tk, rfl, hk⟩ h' hk'
    have := hQ h' tk (fun b o hb x => hk' b o (hk b o (fun q => hb (q ▸ List.mem_cons_self ..)) (fun q => hb (List.mem_cons_of_mem _ q)) x))
    show Q _ { s with heap := h', toks := tk, gens := (s.gens.setIfInBounds g .running).setIfInBounds g .finished }
    rw [Array.setIfInBounds_setIfInBounds]
    exact this
end
end
section
-- NumGen
set_option maxHeartbeats 1000000
theorem isGen_push (h : Heap) (g k : Nat) (nm qn : Value) (hz : h.objs.size = k) : (h.push { cls := .type "generator", data := .fields #[.int g 0, nm, qn] }).IsGen k g := by
  subst hz
  exact ⟨_, nm, qn, Heap.get?_push_size _ rfl, rfl, rfl, rfl⟩
/-- the call of a generator def: a new object and a new place among the generators -/
theorem code_gen {prog : Program} {w : World} {A : Around} {s : Shared} {h₀ : Heap} {L : Addr} {m : Str → Option Value} {K : Frag} {p : Program} {loose : List Str} {mean : ExcName → Option Value} {mg mb : Str → Option Value}
    {R : Result → Shared → Prop} {name qual : Str} {params : Arguments} {body : List Stmt} {scope : Scope} {dV kV doc pm cdv ct oc : Value} {an od : Option Addr} {osl : Array (Option Value)} {f : Addr} {args : Args} {binds : List (Str × Value)}
    (F : Fr h₀ L s.heap m) (X₀ : K.In h₀) (T : Top p loose mean mg mb h₀)
    (ho : K.lookup f = some ⟨oc, od, .func (fnOf name qual params body scope dV kV doc pm an cdv ct), osl⟩) (hcd : codeIn K cdv qual = true) (hroom : A.depth < recursionLimit)
    (hbind : BindsTo s (fnOf name qual params body scope dV kV doc pm an cdv ct) args binds) (hloc : ∀ y ∈ binds, scope.names.lookup y.1 = some .local)
    (h : ∀ h₁ tk, h₁.Ns s.heap.objs.size (fun y => binds.reverse.lookup y) → h₁.IsGen (s.heap.objs.size + 1) s.gens.size → h₁.objs.size = s.heap.objs.size + 2 → (∀ b o, s.heap.get? b = some o → h₁.get? b = some o) →
      R (.ok (.ret (.ref (s.heap.objs.size + 1)))) { s with heap := h₁, toks := tk, gens := s.gens.push (.fresh (.func body (envOf qual scope s.heap.objs.size f cdv))) })
    (hco : scope.isCoroutine = false := by rfl) (hgen : scope.isGenerator = true := by rfl) (hk : scope.kind = .function := by rfl)
    (hcell : ∀ x ∈ scope.names, x.2 ≠ .cell := by decide) : codeAny (model prog w) A (.call (.ref f) args) R s := by
  have X := X₀.keeps F.keep
  refine codeAny_call_generator (fd := fnOf name qual params body scope dV kV doc pm an cdv ct) (body := body) hroom (X _ _ ho) rfl hco hgen rfl (codeRec_of X hcd) (hbind _ _ _ _ ?_)
  refine wpAny_newFunctionEnv hcell hloc (fun h₁ hns hsb => ⟨(T.nolimit.keeps F.keep).fresh _ hsb, ?_⟩) hk
  have hz : h₁.objs.size = s.heap.objs.size + 1 := hsb.1.trans (Heap.size_push ..)
  show R (.ok (.ret (.ref h₁.objs.size))) _
  rw [hz]
  exact h _ _ (hns.keeps fun b o e => Heap.get?_push_of_some _ e) (isGen_push _ _ _ _ _ hz) (by rw [Heap.size_push, hz]) fun b o e => Heap.get?_push_of_some _ (hsb.extBut b o (Nat.ne_of_lt (Heap.lt_size e)) (Heap.get?_push_of_some _ e))
end
section
-- NumCons
set_option maxHeartbeats 1000000
theorem letGo_gen {prog : Program} {w : World} {A : Around} {E : Value → Shared → Prop} {s : Shared} {Q : Unit → Shared → Prop} {elts : List Expr} {k : Nat} {pos : Pos} {a g T : Nat} (hg : s.heap.IsGen a g) (h : Q () s) :
    wpAny (model prog w) A (letOwnedTupleGo (.Tuple elts k pos) (.ref a) (.ref T)) Q E s := by
  obtain ⟨o, nm, qn, ho, hc, hd, _⟩ := hg
  unfold letOwnedTupleGo
  refine wpAny_bind (wpAny_load ho ?_)
  rw [hc, hd]
  exact wpAny_pure h
def TurnE {σ : Type} (h₀ : Heap) (L : Addr) (xi xc : Str) (s : Shared) (Led : σ → List (Addr × Obj)) (Mp : σ → Str → Option Value) (tl : List (Addr × Obj)) (J : σ → Prop) (s' : Shared) : Prop :=
  ∃ c h' tk m₂ all, s' = { s with heap := h', toks := tk } ∧ Fr h₀ L h' m₂ ∧ News h₀ L h' all ∧ (∀ p ∈ Led c ++ tl, p ∈ all) ∧ (∀ y, y ≠ xi → y ≠ xc → m₂ y = Mp c y) ∧ J c
def TurnG {σ : Type} (h₀ : Heap) (L : Addr) (xi xc : Str) (s : Shared) (Led : σ → List (Addr × Obj)) (Mp : σ → Str → Option Value) (tl : List (Addr × Obj)) (J : σ → Prop) (f : Flow) (s' : Shared) : Prop :=
  match f with
  | .next => TurnE h₀ L xi xc s Led Mp tl J s'
  | .cont => TurnE h₀ L xi xc s Led Mp tl J s'
  | _ => False

theorem esc_loop {prog : Program} {w : World} {A : Around} {s : Shared} {env genv : Env} {h₀ : Heap} {R : Result → Shared → Prop} {xi xc : Str} {pk pv pt : Pos} {x1 : Nat} {body gbody : List Stmt} {m : Str → Option Value} {tail : List (Addr × Obj)} {ys : List (Nat × List Nat)} {a g : Nat}
    {σ : Type} (Led : σ → List (Addr × Obj)) (Mp : σ → Str → Option Value) (Inv : Nat → σ → Prop) (c₀ : σ)
    (hh : A.handled = none) (hroom : A.depth < recursionLimit) (hlim : h₀.NoLimit)
    (hxi : env.kindOf xi = some .local) (hxc : env.kindOf xc = some .local) (hp : (env.scope.kind == .class || (env.scope.kind == .module && env.locals != env.globals)) = false)
    (hCs : genv.locals < s.heap.objs.size) (hCL : env.locals ≠ genv.locals) (haL : env.locals ≠ a) (haC : a ≠ genv.locals) (ha0 : h₀.get? a = none) (hC0 : h₀.get? genv.locals = none)
    (hg : s.heap.IsGen a g) (hgs : s.gens[g]? = some (.fresh (.func gbody genv)))
    (hseg : Seg (model prog w) A.in1 (escR genv.locals (s.heap.objs.size + 1) s.heap.objs.size) (escProto genv.locals (s.heap.objs.size + 1) s.heap.objs.size ys) ys.length (s.setGen g .running) (.func gbody genv) ((model prog w).den (.func gbody genv)) [] (s.setGen g .running))
    (F : Fr h₀ env.locals s.heap m) (N : News h₀ env.locals s.heap (Led c₀ ++ tail)) (hoff : ∀ p ∈ tail, p.1 ≠ genv.locals ∧ p.1 ≠ a)
    (hLw : ∀ i c, Inv i c → ∀ p ∈ Led c, p.1 < s.heap.objs.size ∧ p.1 ≠ genv.locals) (hm : ∀ y, y ≠ xi → y ≠ xc → m y = Mp c₀ y) (h0 : Inv 0 c₀)
    (turn : ∀ i y c h tk gs tl t u, ys[i]? = some y → Inv i c → (∀ p ∈ tail, p ∈ tl) → (∀ p ∈ tl, p ∈ tail ∨ p.1 ∈ [genv.locals, s.heap.objs.size + 1, s.heap.objs.size, a]) →
      Fr h₀ env.locals h (fun z => if z = xc then some (.str ⟨y.2.toArray⟩ u) else if z = xi then some (.int (y.1 : Int) t) else Mp c z) → News h₀ env.locals h (Led c ++ tl) →
      wpAny (model prog w) A (execs body env) (TurnG h₀ env.locals xi xc { s with heap := h, toks := tk, gens := gs } Led Mp tl (Inv (i + 1))) (notedBy (model prog w) A env fun e s' => R (.error e) s') { s with heap := h, toks := tk, gens := gs })
    (done : ∀ c u1 u2 h tk, Inv ys.length c → Fr h₀ env.locals h (fun z => if z = xc then u2 else if z = xi then u1 else Mp c z) → News h₀ env.locals h (Led c ++ tail) → R (.ok .next) { s with heap := h, toks := tk, gens := s.gens.setIfInBounds g .finished }) :
    codeAny (model prog w) A (.forLoop (.Tuple [.Name xi pk, .Name xc pv] x1 pt) (.ref a) body [] env) R s := by
  have hsz : s.heap.get? (s.heap.objs.size + 1) = none ∧ s.heap.get? s.heap.objs.size = none := ⟨Heap.get?_none_of_le (Nat.le_succ _), Heap.get?_none_of_le (Nat.le_refl _)⟩
  have old : ∀ b o, h₀.get? b = some o → b ∉ [genv.locals, s.heap.objs.size + 1, s.heap.objs.size] := fun b o hb hmem => by
    have hs := F.keep b o hb
    simp only [List.mem_cons, List.not_mem_nil, or_false] at hmem
    rcases hmem with q | q | q
    · rw [q, hC0] at hb; cases hb
    · rw [q, hsz.1] at hs; cases hs
    · rw [q, hsz.2] at hs; cases hs
  have hLlt : env.locals < s.heap.objs.size := F.ns.lt
  have hLpr : env.locals ∉ [genv.locals, s.heap.objs.size + 1, s.heap.objs.size] := by
    simp only [List.mem_cons, List.not_mem_nil, or_false, not_or]
    exact ⟨hCL, Nat.ne_of_lt (Nat.lt_succ_of_lt hLlt), Nat.ne_of_lt hLlt⟩
  have halt : a < s.heap.objs.size := by obtain ⟨o, _, _, ho, _⟩ := hg; exact Heap.lt_size ho
  have hapr : a ∉ [genv.locals, s.heap.objs.size + 1, s.heap.objs.size] := by
    simp only [List.mem_cons, List.not_mem_nil, or_false, not_or]
    exact ⟨haC, Nat.ne_of_lt (Nat.lt_succ_of_lt halt), Nat.ne_of_lt halt⟩
  have ntail : ∀ p ∈ tail, p.1 ∉ [genv.locals, s.heap.objs.size + 1, s.heap.objs.size] := fun p hpt => by
    have hlt : p.1 < s.heap.objs.size := Heap.lt_size (N p (List.mem_append_right _ hpt)).1
    simp only [List.mem_cons, List.not_mem_nil, or_false, not_or]
    exact ⟨(hoff p hpt).1, Nat.ne_of_lt (Nat.lt_succ_of_lt hlt), Nat.ne_of_lt hlt⟩
  have nled : ∀ i c, Inv i c → ∀ p ∈ Led c ++ tail, p.1 ∉ [genv.locals, s.heap.objs.size + 1, s.heap.objs.size] := fun i c hi p hpm => by
    rcases List.mem_append.mp hpm with q | q
    · have hlt := hLw i c hi p q
      simp only [List.mem_cons, List.not_mem_nil, or_false, not_or]
      exact ⟨hlt.2, Nat.ne_of_lt (Nat.lt_succ_of_lt hlt.1), Nat.ne_of_lt hlt.1⟩
    · exact ntail p q
  refine codeAny_forLoop_any (fun k s' => ∃ h' tk G m' c i gs, s' = { s with heap := h', toks := tk, gens := G } ∧ h'.IsGen a g ∧ G[g]? = some gs ∧ (∀ x, G.setIfInBounds g x = s.gens.setIfInBounds g x) ∧
      ((i = 0 ∧ gs = .fresh (.func gbody genv) ∧ s' = s) ∨ (0 < i ∧ EscWait (model prog w) A.in1 genv.locals (s.heap.objs.size + 1) s.heap.objs.size ys (ys.length - i) gs h')) ∧
      Fr h₀ env.locals h' m' ∧ News h₀ env.locals h' (Led c ++ tail) ∧ (∀ y, y ≠ xi → y ≠ xc → m' y = Mp c y) ∧ Inv i c ∧ i ≤ ys.length ∧ k = ys.length + 1 - i) ?_ (ys.length + 1)
    ⟨s.heap, s.toks, s.gens, m, c₀, 0, _, rfl, hg, hgs, fun _ => rfl, .inl ⟨rfl, rfl, rfl⟩, F, N, hm, h0, Nat.zero_le _, rfl⟩
  rintro k s' ⟨h', tk, G, m', c, i, gs, rfl, hg', hG, hGs, hst, F', N', hm', hi, hle, rfl⟩
  have next : ∀ h₁ : Heap, (∀ b o, b ∉ [genv.locals, s.heap.objs.size + 1, s.heap.objs.size] → h'.get? b = some o → h₁.get? b = some o) → Fr h₀ env.locals h₁ m' ∧ News h₀ env.locals h₁ (Led c ++ tail) := fun h₁ hk₁ =>
    ⟨⟨F'.ns.at' fun o e => hk₁ _ o hLpr e, fun b o e => hk₁ b o (old b o e) (F'.keep b o e), F'.above⟩, fun p hpm => ⟨hk₁ _ _ (nled i c hi p hpm) (N' p hpm).1, (N' p hpm).2⟩⟩
  have hgo : ∀ k, ys.length - i = k → gs.Goes (model prog w) A.in1 (escR genv.locals (s.heap.objs.size + 1) s.heap.objs.size) (escProto genv.locals (s.heap.objs.size + 1) s.heap.objs.size ys) k (.send .none) (({ s with heap := h', toks := tk, gens := G } : Shared).setGen g .running) := by
    intro k hk
    subst hk
    rcases hst with ⟨rfl, rfl, es⟩ | ⟨_, hw⟩
    · rw [es]; exact ⟨rfl, hseg⟩
    · exact hw _ fun b _ o e => e
  by_cases hlt : i < ys.length
  · refine pull_item (k := ys.length - 1 - i) hh (hlim.keeps F'.keep) hroom hg' hG (hgo _ (by omega)) fun T y gs' h₁ tk₁ hy hY hk₁ hw => ?_
    have ei : ys.length - 1 - (ys.length - 1 - i) = i := by omega
    rw [ei] at hy
    have hg₁ : h₁.IsGen a g := let ⟨o, nm, qn, ho, r⟩ := hg'; ⟨o, nm, qn, hk₁ _ _ hapr ho, r⟩
    refine letGo_gen hg₁ ?_
    obtain ⟨t, u, hT⟩ := hY
    refine wpAny_assign_Tuple hh hT rfl rfl fun h₂ hx₂ => ?_
    replace hx₂ : Heap.ExtBut h₁.objs.size h₁ h₂ := hx₂
    have up₂ : ∀ b o, h₁.get? b = some o → h₂.get? b = some o := fun b o x => hx₂ b o (Nat.ne_of_lt (Heap.lt_size x)) x
    obtain ⟨F₂, N₂⟩ := next h₂ fun b o hb x => up₂ b o (hk₁ b o hb x)
    show wpAny _ A (do holding [.str ⟨y.2.toArray⟩ u] (assign (.Name xi pk) env (.int (y.1 : Int) t)); do holding [] (assign (.Name xc pv) env (.str ⟨y.2.toArray⟩ u)); pure ()) _ _ _
    refine wpAny_bind (wpAny_holding (wpAny_assign_Name (wpAny_storeName_local hxi F₂.ns (fun h₃ hn₃ hs₃ => ?_) hp)))
    replace hs₃ : Heap.SameBut env.locals h₂ h₃ := hs₃
    have F₃ := F₂.set hn₃ hs₃
    refine wpAny_bind (wpAny_holding (wpAny_assign_Name (wpAny_storeName_local hxc F₃.ns (fun h₄ hn₄ hs₄ => wpAny_pure ?_) hp)))
    replace hs₄ : Heap.SameBut env.locals h₃ h₄ := hs₄
    have F₄ := F₃.set hn₄ hs₄
    have N₄ : News h₀ env.locals h₄ (Led c ++ tail) := (N₂.set hs₃).set hs₄
    have hLf : env.locals ∉ [genv.locals, s.heap.objs.size + 1, s.heap.objs.size, a] := by
      simp only [List.mem_cons, List.not_mem_nil, or_false, not_or]
      exact ⟨hCL, Nat.ne_of_lt (Nat.lt_succ_of_lt hLlt), Nat.ne_of_lt hLlt, haL⟩
    have up₄ : ∀ b ∈ [genv.locals, s.heap.objs.size + 1, s.heap.objs.size, a], ∀ o, h₁.get? b = some o → (b, o) ∈ ownOf h₀ [genv.locals, s.heap.objs.size + 1, s.heap.objs.size, a] h₄ := fun b hb o x => by
      refine mem_ownOf hb ?_ ?_
      · simp only [List.mem_cons, List.not_mem_nil, or_false] at hb
        cases hn : h₀.get? b with
        | none => rfl
        | some o' =>
          have hs' := F.keep b o' hn
          rcases hb with q | q | q | q
          · rw [q, hC0] at hn; cases hn
          · rw [q, hsz.1] at hs'; cases hs'
          · rw [q, hsz.2] at hs'; cases hs'
          · rw [q, ha0] at hn; cases hn
      · have hbL : b ≠ env.locals := fun q => hLf (q ▸ hb)
        exact (hs₄.2 b hbL).trans ((hs₃.2 b hbL).trans (up₂ b o x))
    have Nall : News h₀ env.locals h₄ (Led c ++ (tail ++ ownOf h₀ [genv.locals, s.heap.objs.size + 1, s.heap.objs.size, a] h₄)) := fun p hpm => by
      rcases List.mem_append.mp hpm with q | q
      · exact N₄ p (List.mem_append_left _ q)
      · rcases List.mem_append.mp q with q | q
        · exact N₄ p (List.mem_append_right _ q)
        · exact news_ownOf hLf p q
    have em : (fun z => if z = xc then some (Value.str ⟨y.2.toArray⟩ u) else if z = xi then some (.int (y.1 : Int) t) else m' z) = fun z => if z = xc then some (.str ⟨y.2.toArray⟩ u) else if z = xi then some (.int (y.1 : Int) t) else Mp c z := by
      funext z
      by_cases e1 : z = xc
      · rw [if_pos e1, if_pos e1]
      · rw [if_neg e1, if_neg e1]
        by_cases e2 : z = xi
        · rw [if_pos e2, if_pos e2]
        · rw [if_neg e2, if_neg e2, hm' z e2 e1]
    rw [em] at F₄
    refine wpAny_mono (turn i y c h₄ _ (G.setIfInBounds g gs') _ t u hy hi (fun p q => List.mem_append_left _ q) (fun p q => (List.mem_append.mp q).imp id (ownOf_sub p)) F₄ Nall) (fun f s₅ h₅ => ?_) fun _ _ e => e
    have fin : TurnE h₀ env.locals xi xc { s with heap := h₄, toks := tk₁ + 1 + 1, gens := G.setIfInBounds g gs' } Led Mp (tail ++ ownOf h₀ [genv.locals, s.heap.objs.size + 1, s.heap.objs.size, a] h₄) (Inv (i + 1)) s₅ → ∃ k', k' < ys.length + 1 - i ∧ ∃ h' tk G m' c i gs, s₅ = { s with heap := h', toks := tk, gens := G } ∧ h'.IsGen a g ∧ G[g]? = some gs ∧ (∀ x, G.setIfInBounds g x = s.gens.setIfInBounds g x) ∧
      ((i = 0 ∧ gs = .fresh (.func gbody genv) ∧ s₅ = s) ∨ (0 < i ∧ EscWait (model prog w) A.in1 genv.locals (s.heap.objs.size + 1) s.heap.objs.size ys (ys.length - i) gs h')) ∧
      Fr h₀ env.locals h' m' ∧ News h₀ env.locals h' (Led c ++ tail) ∧ (∀ y, y ≠ xi → y ≠ xc → m' y = Mp c y) ∧ Inv i c ∧ i ≤ ys.length ∧ k' = ys.length + 1 - i := by
      rintro ⟨c', h₆, tk₆, m₆, all, rfl, F₆, N₆, hs₆, hm₆, hi₆⟩
      have keep₆ : ∀ b ∈ [genv.locals, s.heap.objs.size + 1, s.heap.objs.size, a], ∀ o, h₁.get? b = some o → h₆.get? b = some o := fun b hb o x =>
        (N₆ _ (hs₆ _ (List.mem_append_right _ (List.mem_append_right _ (up₄ b hb o x))))).1
      refine ⟨ys.length + 1 - (i + 1), by omega, h₆, tk₆, _, m₆, c', i + 1, gs', rfl, ?_, ?_, ?_, .inr ⟨Nat.succ_pos i, ?_⟩, F₆, fun p hpm => N₆ p (hs₆ p ?_), hm₆, hi₆, hlt, rfl⟩
      · obtain ⟨o, nm, qn, ho, r⟩ := hg₁
        exact ⟨o, nm, qn, keep₆ a (by simp) o ho, r⟩
      · exact setGen_self (s := { s with gens := G }) hG
      · intro x
        rw [Array.setIfInBounds_setIfInBounds]
        exact hGs x
      · have ek : ys.length - (i + 1) = ys.length - 1 - i := by omega
        rw [ek]
        intro s'' hs''
        refine hw s'' fun b hb o x => hs'' b hb o (keep₆ b ?_ o x)
        simp only [List.mem_cons, List.not_mem_nil, or_false] at hb ⊢
        rcases hb with q | q | q
        · exact .inl q
        · exact .inr (.inl q)
        · exact .inr (.inr (.inl q))
      · rcases List.mem_append.mp hpm with q | q
        · exact List.mem_append_left _ q
        · exact List.mem_append_right _ (List.mem_append_left _ q)
    cases f with
    | next => exact fin h₅
    | cont => exact fin h₅
    | brk => exact h₅.elim
    | ret v => exact h₅.elim
  · have hin : i = ys.length := by omega
    subst hin
    refine pull_done hh (hlim.keeps F'.keep) hroom hg' hG (hgo 0 (by omega)) fun h₁ tk₁ hk₁ => wpAny_execs_nil ?_
    obtain ⟨F₁, N₁⟩ := next h₁ hk₁
    show R _ { s with heap := h₁, toks := tk₁, gens := G.setIfInBounds g .finished }
    rw [hGs]
    have em : m' = fun z => if z = xc then m' xc else if z = xi then m' xi else Mp c z := by
      funext z
      by_cases e1 : z = xc
      · rw [if_pos e1, e1]
      · rw [if_neg e1]
        by_cases e2 : z = xi
        · rw [if_pos e2, e2]
        · rw [if_neg e2, hm' z e2 e1]
    rw [em] at F₁
    exact done c _ _ h₁ tk₁ hi F₁ N₁
end
section
-- NumStrip
set_option maxHeartbeats 1000000
/-- the state of _strip_quoted_realnames: start, the open mark, the pieces -/
abbrev StripSt := Nat × Option Nat × List Str
def stripStep (cut : Nat → Nat → Str) (st : StripSt) (y : Nat × List Nat) : StripSt :=
  if y.2 = [34] then (match st.2.1 with
    | none => (st.1, some y.1, st.2.2)
    | some o => (y.1 + 1, none, if st.1 = o then st.2.2 else st.2.2 ++ [cut st.1 o])) else st
def stripFold (cut : Nat → Nat → Str) (ys : List (Nat × List Nat)) : StripSt := ys.foldl (stripStep cut) (0, none, [])
theorem stripFold_snoc (cut : Nat → Nat → Str) (ys : List (Nat × List Nat)) (i : Nat) (y : Nat × List Nat) (h : ys[i]? = some y) : stripFold cut (ys.take (i + 1)) = stripStep cut (stripFold cut (ys.take i)) y := by
  unfold stripFold
  rw [List.take_add_one, h]
  simp
def openV (t : Tok) : Option Nat → Value
  | none => .none
  | some o => .int (o : Int) t

def StripInv (cut : Nat → Nat → Str) (ys : List (Nat × List Nat)) (i : Nat) (c : (List Value × Nat) × (Str → Option Value)) : Prop :=
  ∃ (st : Nat) (op : Option Nat) (rs : List Str) (ts to : Tok), c.2 (Str.ofString "start") = some (.int (st : Int) ts) ∧ c.2 (Str.ofString "open_pos") = some (openV to op) ∧ StrsAre c.1.1 rs ∧ stripFold cut (ys.take i) = (st, op, rs)
abbrev stripLed (lr : Addr) (c : (List Value × Nat) × (Str → Option Value)) : List (Addr × Obj) := [(lr, W.listOf c.1.1.toArray c.1.2)]
abbrev stripNames : List Str := [Str.ofString "start", Str.ofString "open_pos"]
theorem strip_map {m₀ : Str → Option Value} {c : (List Value × Nat) × (Str → Option Value)} {v1 v2 : Option Value} (e1 : c.2 (Str.ofString "start") = v1) (e2 : c.2 (Str.ofString "open_pos") = v2) :
    MpOf stripNames m₀ c = fun z => if z = Str.ofString "start" then v1 else if z = Str.ofString "open_pos" then v2 else m₀ z := by
  subst e1 e2
  funext z
  unfold MpOf
  by_cases h1 : z = Str.ofString "start"
  · subst h1; simp
  · by_cases h2 : z = Str.ofString "open_pos"
    · subst h2; simp [h1]
    · simp [h1, h2]

theorem strip_loop {prog : Program} {w : World} {A : Around} {s : Shared} {env genv : Env} {h₀ : Heap} {R : Result → Shared → Prop} {pk pv pt : Pos} {x1 : Nat} {body gbody : List Stmt} {m : Str → Option Value} {rest : List (Addr × Obj)} {ys : List (Nat × List Nat)} {a g lr : Nat} {t0 : Tok}
    (cut : Nat → Nat → Str) (hh : A.handled = none) (hroom : A.depth < recursionLimit) (hlim : h₀.NoLimit)
    (hxi : env.kindOf (Str.ofString "pos") = some .local) (hxc : env.kindOf (Str.ofString "ch") = some .local) (hp : (env.scope.kind == .class || (env.scope.kind == .module && env.locals != env.globals)) = false)
    (hCs : genv.locals < s.heap.objs.size) (hCL : env.locals ≠ genv.locals) (haL : env.locals ≠ a) (haC : a ≠ genv.locals) (ha0 : h₀.get? a = none) (hC0 : h₀.get? genv.locals = none)
    (hg : s.heap.IsGen a g) (hgs : s.gens[g]? = some (.fresh (.func gbody genv)))
    (hseg : Seg (model prog w) A.in1 (escR genv.locals (s.heap.objs.size + 1) s.heap.objs.size) (escProto genv.locals (s.heap.objs.size + 1) s.heap.objs.size ys) ys.length (s.setGen g .running) (.func gbody genv) ((model prog w).den (.func gbody genv)) [] (s.setGen g .running))
    (F : Fr h₀ env.locals s.heap m) (N : News h₀ env.locals s.heap ((lr, W.listOf #[] 0) :: rest)) (hoff : ∀ p ∈ rest, p.1 ≠ genv.locals ∧ p.1 ≠ a) (hlr : lr ≠ genv.locals) (hra : lr ≠ a) (hrr : ∀ p ∈ rest, p.1 ≠ lr)
    (hst : m (Str.ofString "start") = some (.int 0 t0)) (hop : m (Str.ofString "open_pos") = some .none)
    (turn : ∀ i y h tk gs tl t u st op rs vs k ts to, ys[i]? = some y → StrsAre vs rs → stripFold cut (ys.take i) = (st, op, rs) → (∀ p ∈ rest, p ∈ tl) → (∀ p ∈ tl, p.1 ≠ lr) →
      Fr h₀ env.locals h (fun z => if z = Str.ofString "ch" then some (.str ⟨y.2.toArray⟩ u) else if z = Str.ofString "pos" then some (.int (y.1 : Int) t) else if z = Str.ofString "start" then some (.int (st : Int) ts) else if z = Str.ofString "open_pos" then some (openV to op) else m z) →
      News h₀ env.locals h ((lr, W.listOf vs.toArray k) :: tl) →
      wpAny (model prog w) A (execs body env) (TurnG h₀ env.locals (Str.ofString "pos") (Str.ofString "ch") { s with heap := h, toks := tk, gens := gs } (stripLed lr) (MpOf stripNames m) tl (StripInv cut ys (i + 1))) (notedBy (model prog w) A env fun e s' => R (.error e) s') { s with heap := h, toks := tk, gens := gs })
    (done : ∀ u1 u2 h tk st op rs vs k ts to, StrsAre vs rs → stripFold cut ys = (st, op, rs) →
      Fr h₀ env.locals h (fun z => if z = Str.ofString "ch" then u2 else if z = Str.ofString "pos" then u1 else if z = Str.ofString "start" then some (.int (st : Int) ts) else if z = Str.ofString "open_pos" then some (openV to op) else m z) →
      News h₀ env.locals h ((lr, W.listOf vs.toArray k) :: rest) → R (.ok .next) { s with heap := h, toks := tk, gens := s.gens.setIfInBounds g .finished }) :
    codeAny (model prog w) A (.forLoop (.Tuple [.Name (Str.ofString "pos") pk, .Name (Str.ofString "ch") pv] x1 pt) (.ref a) body [] env) R s := by
  refine esc_loop (stripLed lr) (MpOf stripNames m) (StripInv cut ys) (([], 0), m) hh hroom hlim hxi hxc hp hCs hCL haL haC ha0 hC0 hg hgs hseg F N hoff (fun i c _ p hp => ?_) (fun y _ _ => mpOf_start _ _ _ y)
    ⟨0, none, [], t0, t0, hst, hop, .nil, rfl⟩ ?_ ?_
  · rw [List.mem_singleton.mp hp]
    exact ⟨Heap.lt_size (N _ (.head _)).1, hlr⟩
  · rintro i y ⟨⟨vs, k⟩, f⟩ h tk gs tl t u hy ⟨st, op, rs, ts, to, e1, e2, hs, hf⟩ hsub hown F' N'
    rw [strip_map (m₀ := m) e1 e2] at F'
    have hlt : @LT.lt Nat _ lr s.heap.objs.size := Heap.lt_size (N _ (.head _)).1
    refine turn i y h tk gs tl t u st op rs vs k ts to hy hs hf hsub (fun p hp e => ?_) F' N'
    rcases hown p hp with q | q
    · exact hrr p q e
    · rw [e] at q
      simp only [List.mem_cons, List.not_mem_nil, or_false] at q
      rcases q with q | q | q | q
      · exact hlr q
      · rw [q] at hlt; exact absurd hlt (Nat.not_lt.mpr (Nat.le_succ _))
      · rw [q] at hlt; exact absurd hlt (Nat.lt_irrefl _)
      · exact hra q
  · rintro ⟨⟨vs, k⟩, f⟩ u1 u2 h tk ⟨st, op, rs, ts, to, e1, e2, hs, hf⟩ F' N'
    rw [strip_map (m₀ := m) e1 e2] at F'
    rw [List.take_length] at hf
    exact done u1 u2 h tk st op rs vs k ts to hs hf F' N'
end
section
-- NumStripS
set_option maxHeartbeats 1000000
/-- `enumerate` of the type's name, from every state that keeps the heap at hand -/
theorem hen_of {prog : Program} {w : World} {K : Frag} {p : Program} {loose : List Str} {mean : ExcName → Option Value} {mg mb : Str → Option Value} {hb : Heap} {env : Env} {q : Pos}
    (X : K.In hb) (T : Top p loose mean mg mb hb) (hk : env.scope.kind = .function) (hx : env.kindOf (Str.ofString "enumerate") = some .globalImplicit) (hgl : env.globals = mainGlobals) (hbu : env.builtins = builtinsNs)
    (hns : nsIn K mainGlobals (Str.ofString "enumerate") = some none) :
    ∀ (A' : Around) (E' : Value → Shared → Prop) (s : Shared) (Q : Value → Shared → Prop), (∀ b o, hb.get? b = some o → s.heap.get? b = some o) → Q (.type "enumerate") s → wpAny (model prog w) A' (eval (.Name (Str.ofString "enumerate") q) env) Q E' s :=
  fun A' E' s Q hkk hQ => Name_function_global hk hx (loadGlobal_builtin (hgl ▸ T.g.keeps hkk) (mg_none_of X T.g hns) (hbu ▸ T.b.keeps hkk) ((T.builtins _ (by decide)).trans boot_enumerate) hQ) (by decide)

theorem strip_seg {prog : Program} {w : World} {A : Around} {s : Shared} {genv : Env} {g : Nat} {x : Str} {tx : Tok} {hb : Heap} {m : Str → Option Value}
    {q1 q2 q3 q4 q5 q6 q7 q8 q9 q10 q11 q12 q13 q14 q15 q16 q17 q18 q19 q20 q21 r1 r2 r3 r4 r5 r6 r7 r8 r9 r10 pk pv pt p1 p2 p3 p4 p5 p6 p7 p8 p9 p10 : Pos} {x1 : Nat}
    (hh : A.handled = none) (hk : genv.scope.kind = .function) (h1 : genv.kindOf (Str.ofString "pos") = some .local) (h2 : genv.kindOf (Str.ofString "ch") = some .local) (h3 : genv.kindOf (Str.ofString "escape") = some .local) (h4 : genv.kindOf (Str.ofString "addr") = some .local)
    (hco : genv.scope.isCoroutine = false) (hint : interactive genv = false) (hasc : strIterType x = "str_ascii_iterator")
    (hn : s.heap.Ns genv.locals m) (ha : m (Str.ofString "addr") = some (.str x tx)) (hC : genv.locals < s.heap.objs.size) (hbk : ∀ b o, hb.get? b = some o → s.heap.get? b = some o) (hbC : hb.get? genv.locals = none)
    (hen : ∀ (A' : Around) (E' : Value → Shared → Prop) (s : Shared) (Q : Value → Shared → Prop), (∀ b o, hb.get? b = some o → s.heap.get? b = some o) → Q (.type "enumerate") s → wpAny (model prog w) A' (eval (.Name (Str.ofString "enumerate") r7) genv) Q E' s) :
    Seg (model prog w) A (escR genv.locals (s.heap.objs.size + 1) s.heap.objs.size) (escProto genv.locals (s.heap.objs.size + 1) s.heap.objs.size (escY x.cps.toList 0 false)) (escY x.cps.toList 0 false).length (s.setGen g .running)
      (.func [.Assign [.Name (Str.ofString "pos") r1] (.Constant (.int 0) 0 r2) r3, .Assign [.Name (Str.ofString "escape") r4] (.Constant (.bool false) 0 r5) r6, .For (.Tuple [.Name (Str.ofString "pos") pk, .Name (Str.ofString "ch") pv] x1 pt) (.Call (.Name (Str.ofString "enumerate") r7) [.Name (Str.ofString "addr") r8] [] r9) (escStmts (.Name (Str.ofString "escape") q1) (.Compare (.Name (Str.ofString "ch") q2) [.Eq] [.Constant (.str (Str.ofString "\\")) 0 q3] q4)
      (.Tuple [.Name (Str.ofString "pos") q5, .BinOp (.Constant (.str (Str.ofString "\\")) 0 q6) .Add (.Name (Str.ofString "ch") q7) q8] 0 q9)
      (.Tuple [.Name (Str.ofString "pos") q10, .Name (Str.ofString "ch") q11] 0 q12)
      (.Assign [.Name (Str.ofString "escape") q16] (.Constant (.bool false) 0 q17) q18) (.Assign [.Name (Str.ofString "escape") q19] (.Constant (.bool true) 0 q20) q21) p1 p2 p3 p4 p5 p6) [] p7, .If (.Name (Str.ofString "escape") r10) [.Expr (.Yield (some (.Tuple [.Name (Str.ofString "pos") q13, .Constant (.str (Str.ofString "\\")) 0 q14] 0 q15)) p8) p9] [] p10] genv)
      ((model prog w).den (.func [.Assign [.Name (Str.ofString "pos") r1] (.Constant (.int 0) 0 r2) r3, .Assign [.Name (Str.ofString "escape") r4] (.Constant (.bool false) 0 r5) r6, .For (.Tuple [.Name (Str.ofString "pos") pk, .Name (Str.ofString "ch") pv] x1 pt) (.Call (.Name (Str.ofString "enumerate") r7) [.Name (Str.ofString "addr") r8] [] r9) (escStmts (.Name (Str.ofString "escape") q1) (.Compare (.Name (Str.ofString "ch") q2) [.Eq] [.Constant (.str (Str.ofString "\\")) 0 q3] q4)
      (.Tuple [.Name (Str.ofString "pos") q5, .BinOp (.Constant (.str (Str.ofString "\\")) 0 q6) .Add (.Name (Str.ofString "ch") q7) q8] 0 q9)
      (.Tuple [.Name (Str.ofString "pos") q10, .Name (Str.ofString "ch") q11] 0 q12)
      (.Assign [.Name (Str.ofString "escape") q16] (.Constant (.bool false) 0 q17) q18) (.Assign [.Name (Str.ofString "escape") q19] (.Constant (.bool true) 0 q20) q21) p1 p2 p3 p4 p5 p6) [] p7, .If (.Name (Str.ofString "escape") r10) [.Expr (.Yield (some (.Tuple [.Name (Str.ofString "pos") q13, .Constant (.str (Str.ofString "\\")) 0 q14] 0 q15)) p8) p9] [] p10] genv)) [] (s.setGen g .running) :=
  seg_escGen (s := s.setGen g .running) (hh := hh) h1 h2 (by rw [hk]; rfl) hco hint (escBody hk h1 h2 h3) (escHead hk h1 h3 h4 hen) hasc m hn ha hC hbk hbC

theorem mark_eq (l : List Nat) : ((⟨l.toArray⟩ : Str) == Str.ofString "\"") = decide (l = [34]) := by
  have e : Str.ofString "\"" = ⟨#[34]⟩ := by rfl
  rw [e]
  by_cases h : l = [34]
  · subst h; rfl
  · rw [decide_eq_false h]
    refine beq_eq_false_iff_ne.mpr fun q => h ?_
    have := congrArg (fun z : Str => z.cps.toList) q
    simpa using this
section
variable {cut : Nat → Nat → Str} {ys : List (Nat × List Nat)} {i : Nat} {y : Nat × List Nat} {st o : Nat} {op : Option Nat} {rs : List Str}
theorem fold_open (hy : ys[i]? = some y) (hm : ((⟨y.2.toArray⟩ : Str) == Str.ofString "\"") = true) (hf : stripFold cut (ys.take i) = (st, none, rs)) : stripFold cut (ys.take (i + 1)) = (st, some y.1, rs) := by
  rw [mark_eq] at hm
  rw [stripFold_snoc _ _ _ _ hy, hf]
  unfold stripStep
  rw [if_pos (of_decide_eq_true hm)]
theorem fold_other (hy : ys[i]? = some y) (hm : ((⟨y.2.toArray⟩ : Str) == Str.ofString "\"") = false) (hf : stripFold cut (ys.take i) = (st, op, rs)) : stripFold cut (ys.take (i + 1)) = (st, op, rs) := by
  rw [mark_eq] at hm
  rw [stripFold_snoc _ _ _ _ hy, hf]
  unfold stripStep
  rw [if_neg (of_decide_eq_false hm)]
theorem fold_ne (hy : ys[i]? = some y) (hm : ((⟨y.2.toArray⟩ : Str) == Str.ofString "\"") = true) (hf : stripFold cut (ys.take i) = (st, some o, rs)) (hne : (st : Int) ≠ (o : Int)) : stripFold cut (ys.take (i + 1)) = (y.1 + 1, none, rs ++ [cut st o]) := by
  rw [mark_eq] at hm
  rw [stripFold_snoc _ _ _ _ hy, hf]
  unfold stripStep
  rw [if_pos (of_decide_eq_true hm)]
  show (y.1 + 1, none, if st = o then rs else rs ++ [cut st o]) = _
  rw [if_neg fun e => hne (by rw [e])]
theorem fold_eq (hy : ys[i]? = some y) (hm : ((⟨y.2.toArray⟩ : Str) == Str.ofString "\"") = true) (hf : stripFold cut (ys.take i) = (st, some o, rs)) (he : (st : Int) = (o : Int)) : stripFold cut (ys.take (i + 1)) = (y.1 + 1, none, rs) := by
  rw [mark_eq] at hm
  rw [stripFold_snoc _ _ _ _ hy, hf]
  unfold stripStep
  rw [if_pos (of_decide_eq_true hm)]
  show (y.1 + 1, none, if st = o then rs else rs ++ [cut st o]) = _
  rw [if_pos (Int.ofNat.inj he)]
end
theorem strs_snoc {vs : List Value} {ys : List Str} {x : Str} {t : Tok} (h : StrsAre vs ys) : StrsAre (vs ++ [.str x t]) (ys ++ [x]) := by
  induction h with
  | nil => exact .cons _ _ .nil
  | cons y u _ ih => exact .cons y u ih
theorem strs_len {vs : List Value} {ys : List Str} (h : StrsAre vs ys) : vs.length = ys.length := by
  induction h with
  | nil => rfl
  | cons _ _ _ ih => simp [ih]
theorem fold_len (cut : Nat → Nat → Str) (ys : List (Nat × List Nat)) : ∀ st : StripSt, (ys.foldl (stripStep cut) st).2.2.length ≤ st.2.2.length + ys.length := by
  induction ys with
  | nil => intro st; simp
  | cons y r ih =>
    intro st
    rw [List.foldl_cons, List.length_cons]
    refine Nat.le_trans (ih _) ?_
    have : (stripStep cut st y).2.2.length ≤ st.2.2.length + 1 := by
      unfold stripStep
      split
      · split
        · simp
        · split <;> simp
      · simp
    omega
theorem stripFold_len (cut : Nat → Nat → Str) (ys : List (Nat × List Nat)) (i : Nat) {st : Nat} {op : Option Nat} {rs : List Str} (h : stripFold cut (ys.take i) = (st, op, rs)) : rs.length ≤ ys.length := by
  have h1 := fold_len cut (ys.take i) (0, none, [])
  unfold stripFold at h
  rw [h] at h1
  have : (ys.take i).length ≤ ys.length := by simp; exact Nat.min_le_right ..
  simpa using Nat.le_trans h1 (by simpa using this)

theorem strip_end {h₀ h' : Heap} {L lr : Addr} {s : Shared} {cut : Nat → Nat → Str} {ys : List (Nat × List Nat)} {i k : Nat} {m m₂ : Str → Option Value} {tl all : List (Addr × Obj)} {vs : List Value} {tk : Nat} {st : Nat} {op : Option Nat} {rs : List Str} {ts to : Tok}
    (F : Fr h₀ L h' m₂) (N : News h₀ L h' all) (hmem : (lr, W.listOf vs.toArray k) ∈ all) (hsub : ∀ p ∈ tl, p ∈ all) (hm : ∀ z, z ≠ Str.ofString "pos" → z ≠ Str.ofString "ch" → stripNames.contains z = false → m₂ z = m z)
    (e1 : m₂ (Str.ofString "start") = some (.int (st : Int) ts)) (e2 : m₂ (Str.ofString "open_pos") = some (openV to op)) (hs : StrsAre vs rs) (hf : stripFold cut (ys.take (i + 1)) = (st, op, rs)) :
    TurnG h₀ L (Str.ofString "pos") (Str.ofString "ch") s (stripLed lr) (MpOf stripNames m) tl (StripInv cut ys (i + 1)) .next { s with heap := h', toks := tk } := by
  refine ⟨((vs, k), m₂), h', tk, m₂, all, rfl, F, N, List.forall_mem_cons.mpr ⟨hmem, hsub⟩, fun z h1 h2 => ?_, st, op, rs, ts, to, e1, e2, hs, hf⟩
  unfold MpOf
  cases h : stripNames.contains z with
  | true => rw [if_pos rfl]
  | false => rw [if_neg Bool.false_ne_true]; exact hm z h1 h2 h

theorem bare_gen {gens : Array GenState} {x : GenState} (h : AllBare gens) : AllBare ((gens.push x).setIfInBounds gens.size .finished) := by
  intro y hy
  obtain ⟨i, hi, e⟩ := Array.mem_iff_getElem.mp hy
  have hsz : i < gens.size + 1 := by simpa using hi
  rw [Array.getElem_setIfInBounds (by simpa using hsz)] at e
  split at e
  · subst e; rfl
  · rw [Array.getElem_push_lt (by omega)] at e
    exact h y (e ▸ Array.getElem_mem _)
def cutS (x : Str) (a b : Nat) : Str := Txt.slice x (some (a : Int)) (some (b : Int))
/-- what _strip_quoted_realnames joins -/
def stripOut (x : Str) : List Str :=
  let r := stripFold (cutS x) (escY x.cps.toList 0 false)
  if (r.1 : Int) < (x.length : Int) then r.2.2 ++ [Txt.slice x (some (r.1 : Int)) none] else r.2.2
def stripF (x : Str) : Str := if (Builtin.Str.occurrences x (Str.ofString "\"") 0 x.length 1).isEmpty = true then x else Txt.join (Str.ofString "") (stripOut x)
theorem news_tl {h₀ h : Heap} {L : Addr} {q : Addr × Obj} {l : List (Addr × Obj)} (N : News h₀ L h (q :: l)) : News h₀ L h l := fun p hp => N p (.tail _ hp)
theorem strip_join {x : Str} {rs : List Str} (h : (Builtin.Str.occurrences x (Str.ofString "\"") 0 x.length 1).isEmpty = false) (e : stripOut x = rs) : Txt.join (Str.ofString "") rs = stripF x := by
  unfold stripF
  rw [if_neg (by rw [h]; exact Bool.false_ne_true), e]
/-- the sizes that the walk asks -/
def StripOk (x : Str) : Prop := strIterType x = "str_ascii_iterator" ∧ x.length ≤ 1000000 ∧ (escY x.cps.toList 0 false).length ≤ 1000000 ∧ ((stripOut x).map (·.length)).sum + (stripOut x).length ≤ 1048576
theorem out_lt {x : Str} {st : Nat} {op : Option Nat} {rs : List Str} (hf : stripFold (cutS x) (escY x.cps.toList 0 false) = (st, op, rs)) (h : (st : Int) < (x.length : Int)) : stripOut x = rs ++ [Txt.slice x (some (st : Int)) none] := by
  unfold stripOut; rw [hf]; exact if_pos h
theorem out_ge {x : Str} {st : Nat} {op : Option Nat} {rs : List Str} (hf : stripFold (cutS x) (escY x.cps.toList 0 false) = (st, op, rs)) (h : ¬ (st : Int) < (x.length : Int)) : stripOut x = rs := by
  unfold stripOut; rw [hf]; exact if_neg h
end
section
-- NumRange
set_option maxHeartbeats 1000000
section
variable {prog : Program} {w : World} {A : Around} {E : Value → Shared → Prop} {s : Shared} {env : Env} {h₀ : Heap} {x : Str} {body : List Stmt} {Q : Flow → Shared → Prop}
/-- a loop over a range by ones -/
theorem loop_range {σ : Type} {r : Addr} {a b : Int} {t u v : Tok} {n : Nat} {m : Str → Option Value} {tail : List (Addr × Obj)}
    (Led : σ → List (Addr × Obj)) (Mp : σ → Str → Option Value) (Inv : Nat → σ → Prop) (R : Addr → Prop) (c₀ : σ) (hh : A.handled = none)
    (hr : IsRange s.heap r a b 1 t u v) (hsm : Builtin.Range.small a b 1 = true) (hn : Builtin.Range.rangeSize a b 1 = ((n : Nat) : Int)) (F : Fr h₀ env.locals s.heap m) (N : News h₀ env.locals s.heap (Led c₀ ++ tail))
    (hLw : ∀ I, (∀ p ∈ Led c₀ ++ tail, p.1 < I) → ∀ i c, Inv i c → ∀ p ∈ Led c, p.1 ≠ I) (hR : ∀ p ∈ tail, R p.1) (hRI : ∀ I, (∀ p ∈ Led c₀ ++ tail, p.1 < I) → R I) (hm : ∀ y, y ≠ x → m y = Mp c₀ y) (h0 : Inv 0 c₀)
    (done : ∀ c u h tk, Inv n c → Fr h₀ env.locals h (fun y => if y = x then u else Mp c y) → News h₀ env.locals h (Led c ++ tail) → Q .next { s with heap := h, toks := tk })
    (turn : ∀ i t c h tk tl, i < n → Inv i c → (∀ p ∈ tl, R p.1) → (∀ p ∈ tail, p ∈ tl) → Fr h₀ env.locals h (fun y => if y = x then some (.int (a + (i : Int)) t) else Mp c y) → News h₀ env.locals h (Led c ++ tl) →
      wpAny (model prog w) A (execs body env) (Turn h₀ env.locals x { s with heap := h, toks := tk } Led Mp tl (Inv (i + 1)) Q) E { s with heap := h, toks := tk }) :
    wpAny (model prog w) A (pyIter (.ref r)) (fun it s₂ => LoopAtV prog w A h₀ env x body Q E it s₂) E s := by
  have hlt : ∀ p ∈ Led c₀ ++ tail, p.1 < s.heap.objs.size := fun p hp => Heap.lt_size (N p hp).1
  refine wpAny_pyIter_range hr hsm ?_
  have W := Walks.range (prog := prog) (w := w) hh s.heap.objs.size a 1 n
  refine loop_W (s := { s with heap := s.heap.push _ }) Led Mp Inv R c₀ W ?_ ?_ ?_ (F.push _) (fun p hp => ⟨Heap.get?_push_of_some _ (N p hp).1, (N p hp).2⟩)
    (ltAll_ne fun p hp => hlt p (List.mem_append_right _ hp)) (fun i c hi p hp hq => hLw _ hlt i c hi p hp (List.mem_singleton.mp hq)) hR ?_ hm h0 done ?_
  · intro hmm
    exact absurd F.ns.lt ((List.mem_singleton.mp hmm) ▸ Nat.lt_irrefl _)
  · intro b hb
    rw [List.mem_singleton.mp hb]
    exact next_is_new F
  · show IsRangeIter _ _ _ _ _
    rw [hn]
    simpa using Heap.get?_push_size _ rfl
  · intro b hb
    exact (List.mem_singleton.mp hb) ▸ hRI _ hlt
  · rintro i v c h tk tl hi ⟨t, rfl⟩
    have := turn i t c h tk tl hi
    simpa using this
/-- .. over a tuple -/
theorem loop_tup {σ : Type} {l : Addr} {vs : List Value} {m : Str → Option Value} {tail : List (Addr × Obj)}
    (Led : σ → List (Addr × Obj)) (Mp : σ → Str → Option Value) (Inv : Nat → σ → Prop) (R : Addr → Prop) (c₀ : σ) (hh : A.handled = none)
    (hl : s.heap.IsTuple l vs.toArray) (hlL : l ≠ env.locals) (F : Fr h₀ env.locals s.heap m) (N : News h₀ env.locals s.heap (Led c₀ ++ tail))
    (hLw : ∀ I, (∀ p ∈ Led c₀ ++ tail, p.1 < I) → ∀ i c, Inv i c → ∀ p ∈ Led c, p.1 ≠ I) (hR : ∀ p ∈ tail, R p.1) (hRl : R l) (hRI : ∀ I, (∀ p ∈ Led c₀ ++ tail, p.1 < I) → R I) (hm : ∀ y, y ≠ x → m y = Mp c₀ y) (h0 : Inv 0 c₀)
    (done : ∀ c u h tk, Inv vs.length c → Fr h₀ env.locals h (fun y => if y = x then u else Mp c y) → News h₀ env.locals h (Led c ++ tail) → Q .next { s with heap := h, toks := tk })
    (turn : ∀ i v c h tk tl, i < vs.length → vs[i]? = some v → Inv i c → (∀ p ∈ tl, R p.1) → (∀ p ∈ tail, p ∈ tl) → Fr h₀ env.locals h (fun y => if y = x then some v else Mp c y) → News h₀ env.locals h (Led c ++ tl) →
      wpAny (model prog w) A (execs body env) (Turn h₀ env.locals x { s with heap := h, toks := tk } Led Mp tl (Inv (i + 1)) Q) E { s with heap := h, toks := tk }) :
    wpAny (model prog w) A (pyIter (.ref l)) (fun it s₂ => LoopAtV prog w A h₀ env x body Q E it s₂) E s := by
  obtain ⟨ol, hol, _⟩ := id hl
  have hlt : ∀ p ∈ Led c₀ ++ tail, p.1 < s.heap.objs.size := fun p hp => Heap.lt_size (N p hp).1
  have hne : l ≠ s.heap.objs.size := Nat.ne_of_lt (Heap.lt_size hol)
  refine wpAny_pyIter_tuple hl ?_
  have W := Walks.tuple (prog := prog) (w := w) hh s.heap.objs.size l hne vs.toArray
  have hlen : vs.toArray.size = vs.length := by simp
  rw [hlen] at W
  refine loop_W (s := { s with heap := s.heap.push _ }) Led Mp Inv R c₀ W ?_ ?_ ⟨⟨_, Heap.get?_push_size _ rfl, rfl, rfl⟩, hl.at fun o e => Heap.get?_push_of_some _ e⟩ (F.push _) (fun p hp => ⟨Heap.get?_push_of_some _ (N p hp).1, (N p hp).2⟩)
    (ltAll_ne fun p hp => hlt p (List.mem_append_right _ hp)) (fun i c hi p hp hq => hLw _ hlt i c hi p hp (List.mem_singleton.mp hq)) hR ?_ hm h0 done ?_
  · intro hmm
    rcases List.mem_cons.mp hmm with e | hmm
    · exact absurd F.ns.lt (e ▸ Nat.lt_irrefl _)
    · exact hlL (List.mem_singleton.mp hmm).symm
  · intro b hb
    rw [List.mem_singleton.mp hb]
    exact next_is_new F
  · intro b hb
    rcases List.mem_cons.mp hb with e | hb
    · exact e ▸ hRI _ hlt
    · exact (List.mem_singleton.mp hb) ▸ hRl
  · intro i v c h tk tl hi hP
    exact turn i v c h tk tl hi (by simpa using hP)
abbrev growLed (l : Addr) (c : List Value × Nat) : List (Addr × Obj) := [(l, W.listOf c.1.toArray c.2)]
/-- a loop over a range that appends one int a turn to one list -/
theorem grow_range {r l : Addr} {a b : Int} {t u v : Tok} {n k0 : Nat} {m : Str → Option Value} {tail : List (Addr × Obj)} (nms : List Str) (f : Nat → Int) (hh : A.handled = none)
    (hr : IsRange s.heap r a b 1 t u v) (hsm : Builtin.Range.small a b 1 = true) (hn : Builtin.Range.rangeSize a b 1 = ((n : Nat) : Int)) (F : Fr h₀ env.locals s.heap m) (N : News h₀ env.locals s.heap ((l, W.listOf #[] k0) :: tail)) (hoff : ∀ p ∈ tail, p.1 ≠ l)
    (done : ∀ vs k c2 u h tk, IntsAre vs ((List.range n).map f) → Fr h₀ env.locals h (fun y => if y = x then u else MpOf nms m ((vs, k), c2) y) → News h₀ env.locals h ((l, W.listOf vs.toArray k) :: tail) → Q .next { s with heap := h, toks := tk })
    (turn : ∀ i t vs k c2 h tk tl, i < n → IntsAre vs ((List.range i).map f) → (∀ p ∈ tl, p.1 ≠ l) → (∀ p ∈ tail, p ∈ tl) → Fr h₀ env.locals h (fun y => if y = x then some (.int (a + (i : Int)) t) else MpOf nms m ((vs, k), c2) y) → News h₀ env.locals h ((l, W.listOf vs.toArray k) :: tl) →
      wpAny (model prog w) A (execs body env) (Turn h₀ env.locals x { s with heap := h, toks := tk } (fun c : (List Value × Nat) × (Str → Option Value) => growLed l c.1) (MpOf nms m) tl (fun c => IntsAre c.1.1 ((List.range (i + 1)).map f)) Q) E { s with heap := h, toks := tk }) :
    wpAny (model prog w) A (pyIter (.ref r)) (fun it s₂ => LoopAtV prog w A h₀ env x body Q E it s₂) E s := by
  have hll : @LT.lt Nat _ l s.heap.objs.size := Heap.lt_size (N _ (.head _)).1
  refine loop_range (fun c : (List Value × Nat) × (Str → Option Value) => growLed l c.1) (MpOf nms m) (fun i c => IntsAre c.1.1 ((List.range i).map f)) (fun p => p ≠ l) (([], k0), m) hh hr hsm hn F N ?_ hoff ?_ (fun y _ => mpOf_start _ _ _ y) .nil ?_ ?_
  · intro I hI i c _ p hp e
    rw [List.mem_singleton.mp hp] at e
    exact absurd (hI (l, W.listOf #[] k0) (.head _)) (by rw [← e]; exact Nat.lt_irrefl _)
  · intro I hI e
    exact absurd (hI (l, W.listOf #[] k0) (.head _)) (by rw [e]; exact Nat.lt_irrefl _)
  · rintro ⟨⟨vs, k⟩, c2⟩ u h tk hi F' N'
    exact done vs k c2 u h tk hi F' N'
  · rintro i t ⟨⟨vs, k⟩, c2⟩ h tk tl hlt hi hR hsub F' N'
    exact turn i t vs k c2 h tk tl hlt hi hR hsub F' N'
theorem grow_snoc {f : Nat → Int} {i : Nat} {vs : List Value} {z : Int} {t : Tok} (h : IntsAre vs ((List.range i).map f)) (hz : z = f i) : IntsAre (vs ++ [.int z t]) ((List.range (i + 1)).map f) := by
  rw [List.range_succ, List.map_append, List.map_singleton, ← hz]
  exact IntsAre.append h (.cons _ _ .nil)
theorem news_swap {h₀ h : Heap} {L : Addr} {a b : Addr × Obj} {l : List (Addr × Obj)} (N : News h₀ L h (a :: b :: l)) : News h₀ L h (b :: a :: l) := fun p hp => N p (by
  rcases List.mem_cons.mp hp with e | hp
  · exact e ▸ .tail _ (.head _)
  · rcases List.mem_cons.mp hp with e | hp
    · exact e ▸ .head _
    · exact .tail _ (.tail _ hp))
/-- a loop over a range that changes one list of ints, by what holds of it -/
theorem upd_range {r l : Addr} {a b : Int} {t u v : Tok} {n k0 : Nat} {vs0 : List Value} {xs0 : List Int} {m : Str → Option Value} {tail : List (Addr × Obj)} (nms : List Str) (J : Nat → List Int → Prop) (hh : A.handled = none)
    (hr : IsRange s.heap r a b 1 t u v) (hsm : Builtin.Range.small a b 1 = true) (hn : Builtin.Range.rangeSize a b 1 = ((n : Nat) : Int)) (F : Fr h₀ env.locals s.heap m) (N : News h₀ env.locals s.heap ((l, W.listOf vs0.toArray k0) :: tail)) (hoff : ∀ p ∈ tail, p.1 ≠ l) (hv0 : IntsAre vs0 xs0) (h0 : J 0 xs0)
    (done : ∀ vs ys k c2 u h tk, IntsAre vs ys → J n ys → Fr h₀ env.locals h (fun y => if y = x then u else MpOf nms m ((vs, k), c2) y) → News h₀ env.locals h ((l, W.listOf vs.toArray k) :: tail) → Q .next { s with heap := h, toks := tk })
    (turn : ∀ i t vs ys k c2 h tk tl, i < n → IntsAre vs ys → J i ys → (∀ p ∈ tl, p.1 ≠ l) → (∀ p ∈ tail, p ∈ tl) → Fr h₀ env.locals h (fun y => if y = x then some (.int (a + (i : Int)) t) else MpOf nms m ((vs, k), c2) y) → News h₀ env.locals h ((l, W.listOf vs.toArray k) :: tl) →
      wpAny (model prog w) A (execs body env) (Turn h₀ env.locals x { s with heap := h, toks := tk } (fun c : (List Value × Nat) × (Str → Option Value) => growLed l c.1) (MpOf nms m) tl (fun c => ∃ ys, IntsAre c.1.1 ys ∧ J (i + 1) ys) Q) E { s with heap := h, toks := tk }) :
    wpAny (model prog w) A (pyIter (.ref r)) (fun it s₂ => LoopAtV prog w A h₀ env x body Q E it s₂) E s := by
  refine loop_range (fun c : (List Value × Nat) × (Str → Option Value) => growLed l c.1) (MpOf nms m) (fun i c => ∃ ys, IntsAre c.1.1 ys ∧ J i ys) (fun p => p ≠ l) ((vs0, k0), m) hh hr hsm hn F N ?_ hoff ?_ (fun y _ => mpOf_start _ _ _ y) ⟨xs0, hv0, h0⟩ ?_ ?_
  · intro I hI i c _ p hp e
    rw [List.mem_singleton.mp hp] at e
    exact absurd (hI (l, W.listOf vs0.toArray k0) (.head _)) (by rw [← e]; exact Nat.lt_irrefl _)
  · intro I hI e
    exact absurd (hI (l, W.listOf vs0.toArray k0) (.head _)) (by rw [e]; exact Nat.lt_irrefl _)
  · rintro ⟨⟨vs, k⟩, c2⟩ u h tk ⟨ys, h1, h2⟩ F' N'
    exact done vs ys k c2 u h tk h1 h2 F' N'
  · rintro i t ⟨⟨vs, k⟩, c2⟩ h tk tl hlt ⟨ys, h1, h2⟩ hR hsub F' N'
    exact turn i t vs ys k c2 h tk tl hlt h1 h2 hR hsub F' N'
/-- .. over a tuple -/
theorem upd_tup {r l : Addr} {tvs : List Value} {k0 : Nat} {vs0 : List Value} {xs0 : List Int} {m : Str → Option Value} {tail : List (Addr × Obj)} (nms : List Str) (J : Nat → List Int → Prop) (hh : A.handled = none)
    (hl : s.heap.IsTuple r tvs.toArray) (hlL : r ≠ env.locals) (hrl : r ≠ l) (F : Fr h₀ env.locals s.heap m) (N : News h₀ env.locals s.heap ((l, W.listOf vs0.toArray k0) :: tail)) (hoff : ∀ p ∈ tail, p.1 ≠ l) (hv0 : IntsAre vs0 xs0) (h0 : J 0 xs0)
    (done : ∀ vs ys k c2 u h tk, IntsAre vs ys → J tvs.length ys → Fr h₀ env.locals h (fun y => if y = x then u else MpOf nms m ((vs, k), c2) y) → News h₀ env.locals h ((l, W.listOf vs.toArray k) :: tail) → Q .next { s with heap := h, toks := tk })
    (turn : ∀ i v vs ys k c2 h tk tl, i < tvs.length → tvs[i]? = some v → IntsAre vs ys → J i ys → (∀ p ∈ tl, p.1 ≠ l) → (∀ p ∈ tail, p ∈ tl) → Fr h₀ env.locals h (fun y => if y = x then some v else MpOf nms m ((vs, k), c2) y) → News h₀ env.locals h ((l, W.listOf vs.toArray k) :: tl) →
      wpAny (model prog w) A (execs body env) (Turn h₀ env.locals x { s with heap := h, toks := tk } (fun c : (List Value × Nat) × (Str → Option Value) => growLed l c.1) (MpOf nms m) tl (fun c => ∃ ys, IntsAre c.1.1 ys ∧ J (i + 1) ys) Q) E { s with heap := h, toks := tk }) :
    wpAny (model prog w) A (pyIter (.ref r)) (fun it s₂ => LoopAtV prog w A h₀ env x body Q E it s₂) E s := by
  refine loop_tup (fun c : (List Value × Nat) × (Str → Option Value) => growLed l c.1) (MpOf nms m) (fun i c => ∃ ys, IntsAre c.1.1 ys ∧ J i ys) (fun p => p ≠ l) ((vs0, k0), m) hh hl hlL F N ?_ hoff hrl ?_ (fun y _ => mpOf_start _ _ _ y) ⟨xs0, hv0, h0⟩ ?_ ?_
  · intro I hI i c _ p hp e
    rw [List.mem_singleton.mp hp] at e
    exact absurd (hI (l, W.listOf vs0.toArray k0) (.head _)) (by rw [← e]; exact Nat.lt_irrefl _)
  · intro I hI e
    exact absurd (hI (l, W.listOf vs0.toArray k0) (.head _)) (by rw [e]; exact Nat.lt_irrefl _)
  · rintro ⟨⟨vs, k⟩, c2⟩ u h tk ⟨ys, h1, h2⟩ F' N'
    exact done vs ys k c2 u h tk h1 h2 F' N'
  · rintro i v ⟨⟨vs, k⟩, c2⟩ h tk tl hlt hv ⟨ys, h1, h2⟩ hR hsub F' N'
    exact turn i v vs ys k c2 h tk tl hlt hv h1 h2 hR hsub F' N'
/-- a loop over a list of ints that turns one int name -/
theorem acc_list {l : Addr} {vs : List Value} {ns : List Int} {r0 : Int} {t0 : Tok} {m : Str → Option Value} {tail : List (Addr × Obj)} (nm : Str) (J : Nat → Int → Prop) (hh : A.handled = none) (hnm : nm ≠ x)
    (hl : s.heap.IsList l vs.toArray) (hi : IntsAre vs ns) (hlL : l ≠ env.locals) (F : Fr h₀ env.locals s.heap m) (N : News h₀ env.locals s.heap tail) (hm0 : m nm = some (.int r0 t0)) (h0 : J 0 r0)
    (done : ∀ r t u h tk, J ns.length r → Fr h₀ env.locals h (fun y => if y = x then u else if y = nm then some (.int r t) else m y) → News h₀ env.locals h tail → Q .next { s with heap := h, toks := tk })
    (turn : ∀ i z tz r tr h tk tl, ns[i]? = some z → J i r → (∀ p ∈ tail, p ∈ tl) → Fr h₀ env.locals h (fun y => if y = x then some (.int z tz) else if y = nm then some (.int r tr) else m y) → News h₀ env.locals h tl →
      wpAny (model prog w) A (execs body env) (Turn h₀ env.locals x { s with heap := h, toks := tk } (fun _ : Unit × (Str → Option Value) => ([] : List (Addr × Obj))) (MpOf [nm] m) tl (fun c => ∃ r t, c.2 nm = some (.int r t) ∧ J (i + 1) r) Q) E { s with heap := h, toks := tk }) :
    wpAny (model prog w) A (pyIter (.ref l)) (fun it s₂ => LoopAtV prog w A h₀ env x body Q E it s₂) E s := by
  refine loop_list (fun _ : Unit × (Str → Option Value) => ([] : List (Addr × Obj))) (MpOf [nm] m) (fun i c => ∃ r t, c.2 nm = some (.int r t) ∧ J i r) (fun _ => True) ((), m) hh hl hlL F N (fun I _ i c _ p hp => nomatch hp) (fun _ _ => trivial) trivial (fun _ _ => trivial) (fun y _ => mpOf_start _ _ _ y) ⟨r0, t0, hm0, h0⟩ ?_ ?_
  · rintro ⟨_, c2⟩ u h tk ⟨r, t, e, hJ⟩ F' N'
    exact done r t u h tk (by rw [← hi.length]; exact hJ) (open1 F' e) N'
  · rintro i v ⟨_, c2⟩ h tk tl hlt hv ⟨r, t, e, hJ⟩ _ hsub F' N'
    obtain ⟨z, tz, rfl, hz⟩ := hi.at i v hv
    exact turn i z tz r t h tk tl hz hJ hsub (open1 F' e) N'
/-- a loop over a range that turns one name -/
theorem acc_range {r : Addr} {a b : Int} {t u v : Tok} {n : Nat} {v0 : Value} {m : Str → Option Value} {tail : List (Addr × Obj)} (nm : Str) (J : Nat → Value → Prop) (hh : A.handled = none)
    (hr : IsRange s.heap r a b 1 t u v) (hsm : Builtin.Range.small a b 1 = true) (hn : Builtin.Range.rangeSize a b 1 = ((n : Nat) : Int)) (F : Fr h₀ env.locals s.heap m) (N : News h₀ env.locals s.heap tail) (hm0 : m nm = some v0) (h0 : J 0 v0)
    (done : ∀ v u h tk, J n v → Fr h₀ env.locals h (fun y => if y = x then u else if y = nm then some v else m y) → News h₀ env.locals h tail → Q .next { s with heap := h, toks := tk })
    (turn : ∀ i t v h tk tl, i < n → J i v → (∀ p ∈ tail, p ∈ tl) → Fr h₀ env.locals h (fun y => if y = x then some (.int (a + (i : Int)) t) else if y = nm then some v else m y) → News h₀ env.locals h tl →
      wpAny (model prog w) A (execs body env) (Turn h₀ env.locals x { s with heap := h, toks := tk } (fun _ : Unit × (Str → Option Value) => ([] : List (Addr × Obj))) (MpOf [nm] m) tl (fun c => ∃ v, c.2 nm = some v ∧ J (i + 1) v) Q) E { s with heap := h, toks := tk }) :
    wpAny (model prog w) A (pyIter (.ref r)) (fun it s₂ => LoopAtV prog w A h₀ env x body Q E it s₂) E s := by
  refine loop_range (fun _ : Unit × (Str → Option Value) => ([] : List (Addr × Obj))) (MpOf [nm] m) (fun i c => ∃ v, c.2 nm = some v ∧ J i v) (fun _ => True) ((), m) hh hr hsm hn F N (fun I _ i c _ p hp => nomatch hp) (fun _ _ => trivial) (fun _ _ => trivial) (fun y _ => mpOf_start _ _ _ y) ⟨v0, hm0, h0⟩ ?_ ?_
  · rintro ⟨_, c2⟩ u h tk ⟨v, e, hJ⟩ F' N'
    exact done v u h tk hJ (open1 F' e) N'
  · rintro i t ⟨_, c2⟩ h tk tl hlt ⟨v, e, hJ⟩ _ hsub F' N'
    exact turn i t v h tk tl hlt hJ hsub (open1 F' e) N'
end
end
section
-- NumSre
set_option maxHeartbeats 1000000
open PySem.Builtin PySem.Builtin.Re
theorem named_search (x : Value) : reNamed "re.Pattern.search" "search" ["string", "pos", "endpos"] 1 [x] [] = pure [some x, none, none] := by rfl
theorem textOf_str (x : Str) (t : Tok) : reTextOf (.str x t) = pure (x.cps, 0) := by rfl

/-- a letter that the set of a search does not hold -/
def NoHit (code : Array Nat) (c : Nat) : Prop := ∀ seen, ∃ seen', Sre.inSet code c code.size 5 true seen = .ok (false, seen')
theorem admitted_none {m : Sre.M} {code : Array Nat} (hm : m.code = code) (h : ∀ p, p < m.lim → NoHit code (m.text.getD p 0)) : ∀ fuel p seen, ∃ seen', Sre.M.admitted m fuel p seen = .ok (none, seen') := by
  intro fuel
  induction fuel with
  | zero => intro p seen; exact ⟨seen, rfl⟩
  | succ k ih =>
    intro p seen
    unfold Sre.M.admitted
    by_cases hp : p ≥ m.lim
    · rw [if_pos hp]; exact ⟨seen, rfl⟩
    · rw [if_neg hp]
      obtain ⟨s1, h1⟩ := h p (Nat.lt_of_not_le hp) seen
      rw [hm, h1]
      exact ih (p + 1) s1
/-- a machine that has answered no, with no frame left -/
def SaidNo (m : Sre.M) : Prop := m.answer = some false ∧ m.frames = [] ∧ m.outcome = none
theorem drive_no {M : Model} {A : Around} {E : Value → Shared → Prop} {s : Shared} {Q : Option Sre.M → Shared → Prop} {m : Sre.M} (h : SaidNo m) (hQ : Q none s) : wpAny M A (reRunToEnd m) Q E s := by
  obtain ⟨h1, h2, h3⟩ := h
  have e1 : m.step = { m with outcome := some .failed } := by
    unfold Sre.M.step
    rw [h3, h1, h2]
    rfl
  have e2 : m.runFor reTurnSteps = { m with outcome := some .failed } := by
    show Sre.M.runFor 4 m = _
    rw [Sre.M.runFor, h3, if_neg (by simp), e1, Sre.M.runFor]
    rw [if_pos (by rfl)]
  have e3 : reDrive (2 ^ 64) m = pure { m with outcome := some .failed } := by
    have : 2 ^ 64 = 18446744073709551615 + 1 := rfl
    rw [this, reDrive, e2]
    exact if_pos rfl
  have rules : ∀ (l : List Nat) (K : PUnit → Sem (Option Sre.M)), wpAny M A (K PUnit.unit) Q E s → wpAny M A ((forIn l PUnit.unit fun i _ => if ({ m with outcome := some .failed } : Sre.M).seen.has i = true then (do rule (Sre.names.getD i ""); pure (ForInStep.yield PUnit.unit)) else pure (ForInStep.yield PUnit.unit)) >>= K) Q E s := by
    intro l
    induction l with
    | nil => intro K hK; exact hK
    | cons i r ih =>
      intro K hK
      rw [List.forIn_cons]
      by_cases hc : ({ m with outcome := some .failed } : Sre.M).seen.has i = true
      · rw [if_pos hc]
        exact ih K hK
      · rw [if_neg hc]
        exact ih K hK
  unfold reRunToEnd
  rw [e3]
  exact rules _ _ (wpAny_pure hQ)

theorem attempt_no {m : Sre.M} {code : Array Nat} {p : Nat} {b : Bool} (hm : m.code = code) (hf : m.hasFirstSet = true) (h : ∀ p, p < m.lim → NoHit code (m.text.getD p 0)) (h1 : m.frames = []) (h2 : m.outcome = none) : SaidNo (m.attemptFrom p b) := by
  unfold Sre.M.attemptFrom
  rw [hf, if_neg (by decide)]
  obtain ⟨s', e⟩ := admitted_none hm h (m.lim + 1 - p) p m.seen
  rw [e]
  exact ⟨rfl, h1, h2⟩
theorem search_no {code text : Array Nat} {b : Nat} (hh : Sre.header code = (1, b)) (hf : (match Sre.ops[code.getD 0 0]? with | some .INFO => true | _ => false) = true) (h2 : code.getD 2 0 = 4) (g : Nat) (h : ∀ p, p < text.size → NoHit code (text.getD p 0)) :
    SaidNo (Sre.forSearch code text g 0 text.size false) := by
  unfold Sre.forSearch
  rw [hh]
  dsimp only
  split
  · exact ⟨rfl, rfl, rfl⟩
  · refine attempt_no (code := code) rfl ?_ h rfl rfl
    unfold Sre.M.hasFirstSet
    show (((match Sre.ops[code.getD 0 0]? with | some .INFO => true | _ => false)) && code.getD 2 0 == 4) = true
    rw [hf, h2]; decide
/-- a pattern that is one set -/
def PatIn (h : Heap) (a : Addr) (code : Array Nat) : Prop :=
  ∃ v0 t1 t2 t3 ac cs n, h.get? a = some { cls := .type "re.Pattern", data := .fields #[v0, .int 32 t1, .int 0 t2, .none, .none, .ref ac, .int 0 t3] } ∧ h.get? ac = some { cls := .type "tuple", data := .seq cs n } ∧ (cs.map reRawOf).map (·.toNat) = code
/-- its words, as a set that is sought from the front -/
def SetCode (code : Array Nat) : Prop := (∃ b, Sre.header code = (1, b)) ∧ (match Sre.ops[code.getD 0 0]? with | some .INFO => true | _ => false) = true ∧ code.getD 2 0 = 4
theorem owner_pat : Manifest.owners.lookup (String.ofList ['n', 'r', 'e', 't', 't', 'a', 'P', '.', 'e', 'r'].reverse) = some Manifest.sig_re_Pattern := by kernel_rfl
theorem slot_search : Slot "re.Pattern" "search" "re.Pattern.search" :=
  .of (owner := "re.Pattern") (n := "search") (by rw [typeLookup_type, builtinLookup_eq_fast]; kernel_rfl) (by decide +kernel) (by decide +kernel) (by decide +kernel)
    (by first | exact .inl (by decide +kernel) | exact .inr (by decide +kernel)) (by rw [isSubtype_type]; kernel_rfl)
theorem entry_search : entryFor table "re.Pattern.search" = some Builtin.«re.Pattern.search» := entryFor_of_tree (by kernel_rfl)
theorem args_search (a b : Value) : argsOk "re.Pattern.search" ⟨[a, b], []⟩ := by
  unfold argsOk; rw [signature?_of (id := "re.Pattern.search") (n := ['h', 'c', 'r', 'a', 'e', 's']) (o := ['n', 'r', 'e', 't', 't', 'a', 'P', '.', 'e', 'r']) (by kernel_rfl) owner_pat]; kernel_rfl
theorem plain_pat : PlainAttrs "re.Pattern" :=
  ⟨⟨"object.__getattribute__", by rw [typeLookup_type, builtinLookup_eq_fast]; kernel_rfl, by decide +kernel⟩, by rw [typeLookup_type, builtinLookup_eq_fast]; kernel_rfl⟩
theorem type_search : typeOf (.builtin "re.Pattern.search") = pure (.type "method_descriptor") := by show builtinType _ = _; rw [builtinType_eq_fast]; kernel_rfl
theorem get_search {M : Model} {A : Around} {E : Value → Shared → Prop} {s : Shared} {K : Frag} {a : Addr} {o : Obj} {pl : Sem Bool} {Q : Value × List Value → Shared → Prop} (X : K.In s.heap) (ho : K.lookup a = some o) (hc : o.cls = .type "re.Pattern") (hd : o.dict = none)
    (h : Q (.builtin "re.Pattern.search", [.ref a]) s) : wpAny M A (getMethod (.ref a) (Str.ofString "search") pl) Q E s :=
  getMethod_builtin ⟨_, X _ _ ho, hc⟩ plain_pat slot_search type_search (fun b e => by cases e; exact ⟨_, X _ _ ho, hd⟩) h
theorem patIn_of {h : Heap} {K : Frag} {a ac : Addr} {v0 : Value} {t1 t2 t3 : Tok} {cs : Array Value} {n : Nat} {code : Array Nat} (X : K.In h)
    (h1 : K.lookup a = some { cls := .type "re.Pattern", data := .fields #[v0, .int 32 t1, .int 0 t2, .none, .none, .ref ac, .int 0 t3] }) (h2 : K.lookup ac = some { cls := .type "tuple", data := .seq cs n }) (e : (cs.map reRawOf).map (·.toNat) = code) : PatIn h a code :=
  ⟨_, _, _, _, _, _, _, X _ _ h1, X _ _ h2, e⟩
theorem search_none {prog : Program} {w : World} {A : Around} {E : Value → Shared → Prop} {s : Shared} {Q : Value → Shared → Prop} {a : Addr} {code : Array Nat} {x : Str} {t : Tok} (H : PatIn s.heap a code) (hc : SetCode code) (hx : x.cps.size < 2 ^ 63) (hn : ∀ p, p < x.cps.size → NoHit code (x.cps.getD p 0)) (hQ : Q .none s) :
    wpAny (model prog w) A (call (.builtin "re.Pattern.search") [.ref a, .str x t]) Q E s := by
  obtain ⟨v0, t1, t2, t3, ac, cs, n, ho, hcs, e⟩ := H
  obtain ⟨⟨b, hb1⟩, hop, hfl⟩ := hc
  refine call_meets slot_search ⟨_, ho, rfl⟩ entry_search (args_search _ _) (S := fun _ R s => s.heap.get? a = some { cls := .type "re.Pattern", data := .fields #[v0, .int 32 t1, .int 0 t2, .none, .none, .ref ac, .int 0 t3] } ∧ s.heap.get? ac = some { cls := .type "tuple", data := .seq cs n } ∧ R (.ok (.ret .none)) s) (.of_wp ?g) ⟨ho, hcs, hQ⟩
  case g =>
    rintro prog w A R s ⟨ho, hc, hR⟩
    unfold Builtin.«re.Pattern.search» reTarget
    dsimp only
    rw [named_search]
    refine wpAny_bind (wpAny_bind (wpAny_pure ?_))
    dsimp only
    refine (wpAny_bind (wpAny_pure (wpAny_bind (wpAny_pure (wpAny_bind (wpAny_fieldsOf ho rfl (wpAny_bind ?_)))))))
    rw [textOf_str]
    refine wpAny_pure ?_
    dsimp only
    rw [if_neg (by exact Bool.false_ne_true), if_neg (by exact Bool.false_ne_true)]
    refine wpAny_bind (wpAny_pure ?_)
    refine wpAny_bind (wpAny_bind (wpAny_seqItems hc rfl (wpAny_pure (wpAny_pure ?_))))
    dsimp only
    have e1 : Min.min (Int.toNat 0) x.cps.size = 0 := Nat.zero_min _
    have e2 : Min.min (2 ^ 63 - 1 : Int).toNat x.cps.size = x.cps.size := Nat.min_eq_right (by
      have : (2 ^ 63 - 1 : Int).toNat = 9223372036854775807 := by decide
      rw [this]; omega)
    rw [e1, e2]
    simp only [Option.getD_some]
    rw [e]
    unfold reAnswer
    exact wpAny_bind (drive_no (search_no hb1 hop hfl _ hn) (wpAny_pure ⟨_, rfl, hR⟩))
def nameCode : Array Nat := #[14, 10, 4, 1, 1, 22, 0, 31, 16, 127, 0, 13, 7, 22, 0, 31, 16, 127, 0, 1]
def valueCode : Array Nat := #[14, 14, 4, 1, 1, 9, 4294966783, 0, 0, 2147483648, 0, 0, 0, 0, 0, 13, 11, 9, 4294966783, 0, 0, 2147483648, 0, 0, 0, 0, 0, 1]
theorem nameSet : SetCode nameCode := ⟨⟨11, by decide⟩, by decide, by decide⟩
theorem valueSet : SetCode valueCode := ⟨⟨15, by decide⟩, by decide, by decide⟩
theorem name_ok {c : Nat} (h : c ∈ [48, 49, 50, 51, 52, 53, 54, 55, 56, 57, 45] ∨ (65 ≤ c ∧ c ≤ 90) ∨ (97 ≤ c ∧ c ≤ 122)) : NoHit nameCode c := by
  intro seen
  have h1 : 31 < c ∧ c < 127 := by
    rcases h with h | h | h
    · exact (by decide : ∀ c ∈ ([48, 49, 50, 51, 52, 53, 54, 55, 56, 57, 45] : List Nat), 31 < c ∧ c < 127) c h
    · exact ⟨Nat.lt_of_lt_of_le (by decide) h.1, Nat.lt_of_le_of_lt h.2 (by decide)⟩
    · exact ⟨Nat.lt_of_lt_of_le (by decide) h.1, Nat.lt_of_le_of_lt h.2 (by decide)⟩
  refine ⟨((seen.add 22).add 16).add 0, ?_⟩
  refine Eq.trans (b := if (decide (0 ≤ c) && decide (c ≤ 31)) = true then _ else Sre.inSet nameCode c (18 + 1) 8 true _) rfl ?_
  rw [if_neg (by rw [Bool.and_eq_true, decide_eq_true_eq, decide_eq_true_eq]; exact fun q => Nat.not_le_of_lt h1.1 q.2)]
  refine Eq.trans (b := if (c == 127) = true then _ else Sre.inSet nameCode c (17 + 1) 10 true _) rfl ?_
  rw [if_neg (by rw [beq_iff_eq]; exact Nat.ne_of_lt h1.2)]
  rfl
theorem value_ok {c : Nat} (h : c ∈ [48, 49, 50, 51, 52, 53, 54, 55, 56, 57, 45]) : NoHit valueCode c := by
  intro seen
  simp only [List.mem_cons, List.not_mem_nil, or_false] at h
  rcases h with h | h | h | h | h | h | h | h | h | h | h <;> subst h <;> exact ⟨_, rfl⟩
end
section
-- NumFor0
set_option maxHeartbeats 1000000
/-- a loop over an empty list, whatever its target -/
theorem loop_none {prog : Program} {w : World} {A : Around} {E : Value → Shared → Prop} {s : Shared} {env : Env} {h₀ : Heap} {L l : Addr} {m : Str → Option Value} {news : List (Addr × Obj)} {target : Expr} {body : List Stmt} {R : Result → Shared → Prop}
    (hh : A.handled = none) (hl : s.heap.IsList l #[]) (F : Fr h₀ L s.heap m) (N : News h₀ L s.heap news) (h : ∀ h' tk, Fr h₀ L h' m → News h₀ L h' news → R (.ok .next) { s with heap := h', toks := tk }) :
    wpAny (model prog w) A (pyIter (.ref l)) (fun it s₂ => codeAny (model prog w) A (.forLoop target it body [] env) R s₂) E s := by
  obtain ⟨ol, hol, _⟩ := id hl
  have hne : l ≠ s.heap.objs.size := Nat.ne_of_lt (Heap.lt_size hol)
  refine wpAny_pyIter_list hl ?_
  have W := Walks.list (prog := prog) (w := w) hh s.heap.objs.size l hne #[]
  have F1 := F.push (o := { cls := .type "list_iterator", data := .fields #[.ref l, .int 0 0] })
  have N1 : News h₀ L (s.heap.push { cls := .type "list_iterator", data := .fields #[.ref l, .int 0 0] }) news := fun p hp => ⟨Heap.get?_push_of_some _ (N p hp).1, (N p hp).2⟩
  have hlt : ∀ p ∈ news, p.1 < s.heap.objs.size := fun p hp => Heap.lt_size (N p hp).1
  refine codeAny_forLoop_any (fun _ s' => s' = { s with heap := s.heap.push { cls := .type "list_iterator", data := .fields #[.ref l, .int 0 0] } }) ?_ 0 rfl
  rintro n s' rfl
  refine W.done _ _ _ ⟨⟨_, Heap.get?_push_size _ rfl, rfl, rfl⟩, hl.at fun o e => Heap.get?_push_of_some _ e⟩ fun h' tk hk => wpAny_execs_nil ?_
  have old : ∀ b o, b < s.heap.objs.size → (s.heap.push { cls := .type "list_iterator", data := .fields #[.ref l, .int 0 0] }).get? b = some o → h'.get? b = some o := fun b o hb e => hk b o (fun q => absurd hb ((List.mem_singleton.mp q) ▸ Nat.lt_irrefl _)) e
  exact h h' tk ⟨F1.ns.at' fun o e => old _ o F.ns.lt e, fun b o e => old b o (Heap.lt_size (F.keep b o e)) (F1.keep b o e), F1.above⟩ fun p hp => ⟨old _ _ (hlt p hp) (N1 p hp).1, (N1 p hp).2⟩
end
section
-- NumComp
set_option maxHeartbeats 1000000
open LCg LCt
section
variable {prog : Program} {w : World} {A : Around} {E : Value → Shared → Prop} {s : Shared} {h₀ : Heap} {L : Addr} {m : Str → Option Value} {env : Env}
theorem compEnd_mono {s₁ : Shared} {I C D : Addr} {oI oC oD : Obj} {S : List (Addr × Obj) → Prop} {r r' : Value → List (Addr × Obj) → Prop} {y : Value} {s₂ : Shared} (hr : ∀ y n, r y n → r' y n) (h : CompEnd h₀ L m s₁ I oI C oC D oD S r y s₂) : CompEnd h₀ L m s₁ I oI C oC D oD S r' y s₂ := by
  obtain ⟨h', tk, news', e, F, N, o, hS, x⟩ := h
  exact ⟨h', tk, news', e, F, N, o, hS, hr _ _ x⟩
/-- a comprehension with one test, by what holds between the turns -/
theorem restT_inv {ct elt : Expr} {x : Str} {scope : Scope} {cl : List (Str × Addr)} {S : List (Addr × Obj) → Prop} {P : Nat → Value → Prop} {Fin : List Value → List (Addr × Obj) → Prop} {n : Nat} (J : Nat → List Value → List (Addr × Obj) → Prop)
    (turn : ∀ i ys news v I oI C oC D m₂ h tk (E' : Value → Shared → Prop), i < n → J i ys news → P i v → NsObj oC m₂ → m₂ x = some v → Fr h₀ L h m → News h₀ L h ((I, oI) :: (C, oC) :: (D, lst ys) :: news) → Off3 I C D news → ((@Ne Nat I C) ∧ (@Ne Nat I D) ∧ (@Ne Nat C D)) →
      wpAny (model prog w) A (isTrue ct (compEnvC scope cl C env) (eval ct (compEnvC scope cl C env))) (fun ok s' => if ok = true then
        wpAny (model prog w) A (eval elt (compEnvC scope cl C env)) (CompEnd h₀ L m { s with heap := h, toks := tk } I oI C oC D (lst ys) S (fun y news' => J (i + 1) (ys ++ [y]) news')) E' s'
        else CompEnd h₀ L m { s with heap := h, toks := tk } I oI C oC D (lst ys) S (fun _ news' => J (i + 1) ys news') Value.none s') E' { s with heap := h, toks := tk })
    (fin : ∀ ys news, J n ys news → Fin ys news) : ∀ k i ys news, i + k = n → J i ys news → CompRestT prog w A h₀ L m env ct elt x scope cl s S P Fin k i ys news := by
  intro k
  induction k with
  | zero => intro i ys news e hJ; subst e; exact fin _ _ hJ
  | succ k ih =>
    intro i ys news e hJ v I oI C oC D m₂ h tk E' hP hn hx F N o hne
    refine wpAny_mono (turn i ys news v I oI C oC D m₂ h tk E' (by omega) hJ hP hn hx F N o hne) (fun ok s' h' => ?_) fun _ _ e => e
    cases ok with
    | true =>
      rw [if_pos rfl] at h' ⊢
      exact wpAny_mono h' (fun y s'' h'' => compEnd_mono (fun y nw hj => ih (i + 1) _ nw (by omega) hj) h'') fun _ _ e => e
    | false =>
      rw [if_neg Bool.false_ne_true] at h' ⊢
      exact compEnd_mono (fun y nw hj => ih (i + 1) _ nw (by omega) hj) h'
/-- .. without a test -/
theorem restU_inv {elt : Expr} {x : Str} {scope : Scope} {cl : List (Str × Addr)} {S : List (Addr × Obj) → Prop} {P : Nat → Value → Prop} {Fin : List Value → List (Addr × Obj) → Prop} {n : Nat} (J : Nat → List Value → List (Addr × Obj) → Prop)
    (turn : ∀ i ys news v I oI C oC D m₂ h tk (E' : Value → Shared → Prop), i < n → J i ys news → P i v → NsObj oC m₂ → m₂ x = some v → Fr h₀ L h m → News h₀ L h ((I, oI) :: (C, oC) :: (D, lst ys) :: news) → Off3 I C D news → ((@Ne Nat I C) ∧ (@Ne Nat I D) ∧ (@Ne Nat C D)) →
      wpAny (model prog w) A (eval elt (compEnvC scope cl C env)) (CompEnd h₀ L m { s with heap := h, toks := tk } I oI C oC D (lst ys) S (fun y news' => J (i + 1) (ys ++ [y]) news')) E' { s with heap := h, toks := tk })
    (fin : ∀ ys news, J n ys news → Fin ys news) : ∀ k i ys news, i + k = n → J i ys news → CompRest prog w A h₀ L m env elt x scope cl s S P Fin k i ys news := by
  intro k
  induction k with
  | zero => intro i ys news e hJ; subst e; exact fin _ _ hJ
  | succ k ih =>
    intro i ys news e hJ v I oI C oC D m₂ h tk E' hP hn hx F N o hne
    exact wpAny_mono (turn i ys news v I oI C oC D m₂ h tk E' (by omega) hJ hP hn hx F N o hne) (fun y s'' h'' => compEnd_mono (fun y nw hj => ih (i + 1) _ nw (by omega) hj) h'') fun _ _ e => e
end
end
section
-- NumPost
set_option maxHeartbeats 1000000
/-- the law's end: True came back, what stood stands, the code tables have grown, the generators are done with -/
def LawEnd (tabs : List (Addr × Addr)) (s₁ : Shared) (r : Result) (s' : Shared) : Prop :=
  r = .ok (.ret (.bool true)) ∧ (∀ b o, (ghostOf s₁.heap tabs).get? b = some o → s'.heap.get? b = some o) ∧ s'.os = s₁.os ∧ AllBare s'.gens ∧ GrownAll tabs s'.heap
theorem law_post {M : Model} {A : Around} {cd : Code} {s s₁ : Shared} {cw : ClaimW} {cl : Str → Option Addr} {mean : ExcName → Option Value} {args : List WData} {tabs : List (Addr × Addr)} (hT : TabsAt tabs s₁.heap) (hr : ∀ a x, cw.raises a x = false) (hp : cw.post args (.bool true) args = true)
    (h : codeAny M A cd (LawEnd tabs s₁) s) : codeAny M A cd (GoodWG cw cl mean args s₁) s := by
  refine codeAny_mono h fun r s' hE => ?_
  obtain ⟨rfl, hk, hos, hg, hgr⟩ := hE
  refine ⟨.inl ⟨_, _, [], rfl, fun c => hr _ c, .bool true, hp, fun _ => ⟨List.nodup_nil, fun a ha => nomatch ha⟩⟩, ⟨fun b o e => ?_, fun b o e => ?_⟩, hos, hg⟩
  all_goals
    by_cases hb : b ∈ tabs.map (·.2)
    · obtain ⟨q, hq, rfl⟩ := List.mem_map.mp hb
      obtain ⟨ps, hP⟩ := hgr.get q hq
      have e2 := (hT q hq).2
      rw [e] at e2
      have e3 : o = tabObj #[] := Option.some.inj e2
      first
        | exact ⟨_, hP⟩
        | (rw [e3]; exact .inr (.inl ⟨((hT q hq).1.tab (hT q hq).2).isCodeTable, rfl, #[], ps, rfl, by rw [Array.empty_append]; exact hP⟩))
    · first | exact .inl (hk b o (ghost_ne e hb)) | exact ⟨o, hk b o (ghost_ne e hb)⟩
theorem cells_step {cm : Str → Option Value} {n : Str} {c : Addr} {cs : List (Str × Addr)} {cells : List (Addr × Obj)} (x : CellsAre cm ((n, c) :: cs) cells) : ∃ o r, cells = (c, o) :: r ∧ o.data = .cell (cm n) ∧ CellsAre cm cs r := by
  cases x with | cons h r => exact ⟨_, _, rfl, h, r⟩
theorem cells_end {cm : Str → Option Value} {cells : List (Addr × Obj)} (x : CellsAre cm [] cells) : cells = [] := by
  cases x; rfl
end
section
-- NumLoopG
set_option maxHeartbeats 1000000
theorem letGo_name {M : Model} {A : Around} {E : Value → Shared → Prop} {s : Shared} {Q : Unit → Shared → Prop} {x : Str} {p : Pos} {it v : Value} (h : Q () s) : wpAny M A (letOwnedTupleGo (.Name x p) it v) Q E s := by
  have e : letOwnedTupleGo (.Name x p) it v = pure () := rfl
  rw [e]; exact wpAny_pure h
def EndG (h₀ : Heap) (L : Addr) (s : Shared) (tl : List (Addr × Obj)) (J : List (Addr × Obj) → (Str → Option Value) → Prop) (s' : Shared) : Prop :=
  ∃ led mp h' tk gs all, s' = { s with heap := h', toks := tk, gens := gs } ∧ (AllBare s.gens → AllBare gs) ∧ Fr h₀ L h' mp ∧ News h₀ L h' all ∧ (∀ p ∈ led ++ tl, p ∈ all) ∧ J led mp
/-- what a turn must show, where calls within may make generators -/
def TurnGG (h₀ : Heap) (L : Addr) (s : Shared) (tl : List (Addr × Obj)) (J : List (Addr × Obj) → (Str → Option Value) → Prop) (f : Flow) (s' : Shared) : Prop :=
  match f with
  | .next => EndG h₀ L s tl J s'
  | .cont => EndG h₀ L s tl J s'
  | _ => False
theorem turnGG {h₀ : Heap} {L : Addr} {s : Shared} {tl : List (Addr × Obj)} {J : List (Addr × Obj) → (Str → Option Value) → Prop} (led : List (Addr × Obj)) {mp : Str → Option Value} {h' : Heap} {tk : Nat} {gs : Array GenState} {all : List (Addr × Obj)}
    (F : Fr h₀ L h' mp) (N : News h₀ L h' all) (hg : AllBare s.gens → AllBare gs) (hs : ∀ p ∈ led ++ tl, p ∈ all) (hJ : J led mp) : TurnGG h₀ L s tl J .next { s with heap := h', toks := tk, gens := gs } := ⟨led, mp, h', tk, gs, all, rfl, hg, F, N, hs, hJ⟩
section
variable {prog : Program} {w : World} {A : Around} {E : Value → Shared → Prop} {s : Shared} {env : Env} {h₀ : Heap} {x : Str} {body : List Stmt} {R : Result → Shared → Prop} {L : Addr}
/-- a loop by what holds of the frame and of the ledger between the turns; its name may be a cell -/
theorem loop_G {px : Pos} {I : Addr} {fp wr : List Addr} {n : Nat} {P : Nat → Value → Prop} {St : Nat → Heap → Prop} {m : Str → Option Value} {led tail : List (Addr × Obj)}
    (Inv : Nat → List (Addr × Obj) → (Str → Option Value) → Prop)
    (W : Walks prog w A I fp wr n P St) (hIo : ∀ i h, St i h → ∃ o, h.get? I = some o) (hIf : I ∈ fp) (hI0 : h₀.get? I = none) (hLf : L ∉ fp) (hwr : ∀ b ∈ wr, h₀.get? b = none) (hst : St 0 s.heap) (F : Fr h₀ L s.heap m) (N : News h₀ L s.heap (led ++ tail))
    (hoff : ∀ p ∈ tail, p.1 ∉ wr) (hLw : ∀ i led mp, Inv i led mp → ∀ p ∈ led, p.1 ∉ wr) (h0 : Inv 0 led m)
    (done : ∀ led mp h tk gs, Inv n led mp → (AllBare s.gens → AllBare gs) → Fr h₀ L h mp → News h₀ L h (led ++ tail) → R (.ok .next) { s with heap := h, toks := tk, gens := gs })
    (turn : ∀ i v led mp h tk gs tl, i < n → P i v → Inv i led mp → (AllBare s.gens → AllBare gs) → (∀ p ∈ tail, p ∈ tl) → (∃ o, (I, o) ∈ tl) → (∀ p ∈ tl, p ∈ tail ∨ p.1 ∈ fp) → Fr h₀ L h mp → News h₀ L h (led ++ tl) →
      wpAny (model prog w) A (storeName env x v) (fun _ s₂ => wpAny (model prog w) A (execs body env) (TurnGG h₀ L { s with heap := h, toks := tk, gens := gs } tl (Inv (i + 1))) (notedBy (model prog w) A env fun e s' => R (.error e) s') s₂) (notedBy (model prog w) A env fun e s' => R (.error e) s') { s with heap := h, toks := tk, gens := gs }) :
    codeAny (model prog w) A (.forLoop (.Name x px) (.ref I) body [] env) R s := by
  refine codeAny_forLoop_any (fun k s' => ∃ led mp h tk gs i, s' = { s with heap := h, toks := tk, gens := gs } ∧ (AllBare s.gens → AllBare gs) ∧ St i h ∧ Fr h₀ L h mp ∧ News h₀ L h (led ++ tail) ∧ Inv i led mp ∧ i ≤ n ∧ k = n + 1 - i) ?_ (n + 1)
    ⟨led, m, s.heap, s.toks, s.gens, 0, rfl, id, hst, F, N, h0, Nat.zero_le _, rfl⟩
  rintro k s' ⟨led, mp, h, tk, gs, i, rfl, hg, hst', F', N', hi, hle, rfl⟩
  have hLw' : L ∉ wr := fun q => hLf (W.sub _ q)
  have next : ∀ h₁ : Heap, (∀ b o, b ∉ wr → h.get? b = some o → h₁.get? b = some o) → Fr h₀ L h₁ mp ∧ News h₀ L h₁ (led ++ tail) := fun h₁ hk₁ =>
    ⟨⟨F'.ns.at' fun o e => hk₁ _ o hLw' e, fun b o e => hk₁ b o (fun q => by rw [hwr b q] at e; cases e) (F'.keep b o e), F'.above⟩,
      fun p hp => ⟨hk₁ _ _ ((List.mem_append.mp hp).elim (hLw i led mp hi p) (hoff p)) (N' p hp).1, (N' p hp).2⟩⟩
  by_cases hlt : i < n
  · refine W.item i _ _ _ hlt hst' fun v h₁ tk₁ hP hst₁ hk₁ => ?_
    obtain ⟨F₁, N₁⟩ := next h₁ hk₁
    refine letGo_name (wpAny_assign_Name ?_)
    have Nall : News h₀ L h₁ (led ++ (tail ++ ownOf h₀ fp h₁)) := fun p hp => by
      rcases List.mem_append.mp hp with q | q
      · exact N₁ p (List.mem_append_left _ q)
      · rcases List.mem_append.mp q with q | q
        · exact N₁ p (List.mem_append_right _ q)
        · exact news_ownOf hLf p q
    obtain ⟨oI, hoI⟩ := hIo _ _ hst₁
    refine wpAny_mono (turn i v led mp h₁ tk₁ gs (tail ++ ownOf h₀ fp h₁) hlt hP hi hg (fun p q => List.mem_append_left _ q) ⟨oI, List.mem_append_right _ (mem_ownOf hIf hI0 hoI)⟩ (fun p q => (List.mem_append.mp q).imp id (ownOf_sub p)) F₁ Nall)
      (fun _ s₂ h₂ => wpAny_mono h₂ (fun f s₃ h₃ => ?_) fun _ _ e => e) fun _ _ e => e
    have fin : EndG h₀ L { s with heap := h₁, toks := tk₁, gens := gs } (tail ++ ownOf h₀ fp h₁) (Inv (i + 1)) s₃ → ∃ m, m < n + 1 - i ∧ ∃ led mp h tk gs j, s₃ = { s with heap := h, toks := tk, gens := gs } ∧ (AllBare s.gens → AllBare gs) ∧ St j h ∧ Fr h₀ L h mp ∧ News h₀ L h (led ++ tail) ∧ Inv j led mp ∧ j ≤ n ∧ m = n + 1 - j := by
      rintro ⟨led', mp', h', tk', gs', all, rfl, hg', F₃, N₃, hs, hJ⟩
      refine ⟨n + 1 - (i + 1), by omega, led', mp', h', tk', gs', i + 1, rfl, fun q => hg' (hg q), ?_, F₃, fun p hp => N₃ p (hs p ?_), hJ, hlt, rfl⟩
      · refine W.frame _ _ _ hst₁ fun b hb o e => ?_
        cases hn : h₀.get? b with
        | some o₀ =>
          have : o₀ = o := by have := F₁.keep b o₀ hn; rw [e] at this; exact (Option.some.inj this).symm
          exact this ▸ F₃.keep b o₀ hn
        | none => exact (N₃ _ (hs _ (List.mem_append_right _ (List.mem_append_right _ (mem_ownOf hb hn e))))).1
      · rcases List.mem_append.mp hp with q | q
        · exact List.mem_append_left _ q
        · exact List.mem_append_right _ (List.mem_append_left _ q)
    cases f with
    | next => exact fin h₃
    | cont => exact fin h₃
    | brk => exact h₃.elim
    | ret v => exact h₃.elim
  · have hin : i = n := by omega
    subst hin
    refine W.done _ _ _ hst' fun h₁ tk₁ hk₁ => wpAny_execs_nil ?_
    obtain ⟨F₁, N₁⟩ := next h₁ hk₁
    exact done led mp h₁ tk₁ gs hi hg F₁ N₁
/-- .. over a range by ones -/
theorem rangeG {px : Pos} {r : Addr} {a b : Int} {t u v : Tok} {n : Nat} {m : Str → Option Value} {led tail : List (Addr × Obj)}
    (Inv : Addr → Nat → List (Addr × Obj) → (Str → Option Value) → Prop) (hh : A.handled = none)
    (hr : IsRange s.heap r a b 1 t u v) (hsm : Builtin.Range.small a b 1 = true) (hn : Builtin.Range.rangeSize a b 1 = ((n : Nat) : Int)) (F : Fr h₀ L s.heap m) (N : News h₀ L s.heap (led ++ tail))
    (hLw : ∀ I i led mp, Inv I i led mp → ∀ p ∈ led, p.1 ≠ I) (h0 : ∀ I, (∀ p ∈ led ++ tail, p.1 < I) → Inv I 0 led m)
    (done : ∀ I led mp h tk gs, Inv I n led mp → (AllBare s.gens → AllBare gs) → Fr h₀ L h mp → News h₀ L h (led ++ tail) → R (.ok .next) { s with heap := h, toks := tk, gens := gs })
    (turn : ∀ I i t led mp h tk gs tl, i < n → Inv I i led mp → (AllBare s.gens → AllBare gs) → (∀ p ∈ tail, p ∈ tl) → (∃ o, (I, o) ∈ tl) → (∀ p ∈ tl, p ∈ tail ∨ p.1 = I) → (∀ p ∈ led ++ tail, p.1 ≠ I) → Fr h₀ L h mp → News h₀ L h (led ++ tl) →
      wpAny (model prog w) A (storeName env x (.int (a + (i : Int)) t)) (fun _ s₂ => wpAny (model prog w) A (execs body env) (TurnGG h₀ L { s with heap := h, toks := tk, gens := gs } tl (Inv I (i + 1))) (notedBy (model prog w) A env fun e s' => R (.error e) s') s₂) (notedBy (model prog w) A env fun e s' => R (.error e) s') { s with heap := h, toks := tk, gens := gs }) :
    wpAny (model prog w) A (pyIter (.ref r)) (fun it s₂ => codeAny (model prog w) A (.forLoop (.Name x px) it body [] env) R s₂) E s := by
  have hlt : ∀ p ∈ led ++ tail, p.1 < s.heap.objs.size := fun p hp => Heap.lt_size (N p hp).1
  have hne : ∀ p ∈ tail, p.1 ≠ s.heap.objs.size := fun p hp => Nat.ne_of_lt (hlt p (List.mem_append_right _ hp))
  refine wpAny_pyIter_range hr hsm ?_
  refine loop_G (s := { s with heap := s.heap.push _ }) (Inv s.heap.objs.size) (Walks.range (prog := prog) (w := w) hh s.heap.objs.size a 1 n) (fun i h st => ⟨_, st⟩) (List.mem_singleton.mpr rfl) (next_is_new F) (fun hmm => absurd F.ns.lt ((List.mem_singleton.mp hmm) ▸ Nat.lt_irrefl _)) (fun b hb => (List.mem_singleton.mp hb) ▸ next_is_new F) ?_ (F.push _)
    (fun p hp => ⟨Heap.get?_push_of_some _ (N p hp).1, (N p hp).2⟩) (fun p hp q => hne p hp (List.mem_singleton.mp q)) (fun i led mp hi p hp q => hLw _ i led mp hi p hp (List.mem_singleton.mp q)) (h0 _ hlt) (fun led mp h tk gs hi hg F' N' => done _ led mp h tk gs hi hg F' N') ?_
  · show IsRangeIter _ _ _ _ _
    rw [hn]
    simpa using Heap.get?_push_size _ rfl
  · rintro i v led mp h tk gs tl hi ⟨t, rfl⟩ hJ hg hsub hI hown F' N'
    have := turn s.heap.objs.size i t led mp h tk gs tl hi hJ hg hsub hI (fun p hp => (hown p hp).imp id fun q => List.mem_singleton.mp q) (fun p hp => by
      rcases List.mem_append.mp hp with q | q
      · exact hLw _ i led mp hJ p q
      · exact hne p q) F' N'
    simpa using this
/-- .. over a list that stands in the base or in the ledger -/
theorem listG {px : Pos} {l : Addr} {vs : List Value} {m : Str → Option Value} {led tail : List (Addr × Obj)}
    (Inv : Addr → Nat → List (Addr × Obj) → (Str → Option Value) → Prop) (hh : A.handled = none)
    (hl : s.heap.IsList l vs.toArray) (hlL : l ≠ L) (F : Fr h₀ L s.heap m) (N : News h₀ L s.heap (led ++ tail))
    (hLw : ∀ I i led mp, Inv I i led mp → ∀ p ∈ led, p.1 ≠ I) (h0 : ∀ I, (∀ p ∈ led ++ tail, p.1 < I) → Inv I 0 led m)
    (done : ∀ I led mp h tk gs, Inv I vs.length led mp → (AllBare s.gens → AllBare gs) → Fr h₀ L h mp → News h₀ L h (led ++ tail) → R (.ok .next) { s with heap := h, toks := tk, gens := gs })
    (turn : ∀ I i v led mp h tk gs tl, vs[i]? = some v → Inv I i led mp → (AllBare s.gens → AllBare gs) → (∀ p ∈ tail, p ∈ tl) → (∃ o, (I, o) ∈ tl) → (∀ p ∈ tl, p ∈ tail ∨ p.1 = I ∨ p.1 = l) → (∀ p ∈ led ++ tail, p.1 ≠ I) → Fr h₀ L h mp → News h₀ L h (led ++ tl) →
      wpAny (model prog w) A (storeName env x v) (fun _ s₂ => wpAny (model prog w) A (execs body env) (TurnGG h₀ L { s with heap := h, toks := tk, gens := gs } tl (Inv I (i + 1))) (notedBy (model prog w) A env fun e s' => R (.error e) s') s₂) (notedBy (model prog w) A env fun e s' => R (.error e) s') { s with heap := h, toks := tk, gens := gs }) :
    wpAny (model prog w) A (pyIter (.ref l)) (fun it s₂ => codeAny (model prog w) A (.forLoop (.Name x px) it body [] env) R s₂) E s := by
  obtain ⟨ol, hol, _⟩ := id hl
  have hlt : ∀ p ∈ led ++ tail, p.1 < s.heap.objs.size := fun p hp => Heap.lt_size (N p hp).1
  have hne : ∀ p ∈ tail, p.1 ≠ s.heap.objs.size := fun p hp => Nat.ne_of_lt (hlt p (List.mem_append_right _ hp))
  have hls : l ≠ s.heap.objs.size := Nat.ne_of_lt (Heap.lt_size hol)
  refine wpAny_pyIter_list hl ?_
  have W := Walks.list (prog := prog) (w := w) hh s.heap.objs.size l hls vs.toArray
  have hlen : vs.toArray.size = vs.length := by simp
  rw [hlen] at W
  refine loop_G (s := { s with heap := s.heap.push _ }) (Inv s.heap.objs.size) W (fun i h st => by obtain ⟨o, e, _⟩ := st.1; exact ⟨o, e⟩) (.head _) (next_is_new F) ?_ (fun b hb => (List.mem_singleton.mp hb) ▸ next_is_new F) ⟨⟨_, Heap.get?_push_size _ rfl, rfl, rfl⟩, hl.at fun o e => Heap.get?_push_of_some _ e⟩ (F.push _)
    (fun p hp => ⟨Heap.get?_push_of_some _ (N p hp).1, (N p hp).2⟩) (fun p hp q => hne p hp (List.mem_singleton.mp q)) (fun i led mp hi p hp q => hLw _ i led mp hi p hp (List.mem_singleton.mp q)) (h0 _ hlt) (fun led mp h tk gs hi hg F' N' => done _ led mp h tk gs hi hg F' N') ?_
  · intro hmm
    rcases List.mem_cons.mp hmm with e | hmm
    · exact absurd F.ns.lt (e ▸ Nat.lt_irrefl _)
    · exact hlL (List.mem_singleton.mp hmm).symm
  · intro i v led mp h tk gs tl hi hP hJ hg hsub hI hown F' N'
    refine turn s.heap.objs.size i v led mp h tk gs tl (by simpa using hP) hJ hg hsub hI (fun p hp => (hown p hp).imp id fun q => ?_) (fun p hp => ?_) F' N'
    · rcases List.mem_cons.mp q with q | q
      · exact .inl q
      · exact .inr (List.mem_singleton.mp q)
    · rcases List.mem_append.mp hp with q | q
      · exact hLw _ i led mp hJ p q
      · exact hne p q
end
end
section
-- NumLaw2
set_option maxHeartbeats 1000000
def wordF (i : Nat) : Int := Builtin.bitXor (i : Int) ((i : Int).fdiv 2)
def signF (i : Nat) : Str := ⟨#[97 + i]⟩ ++ ([Str.empty, Str.ofString "\\\"", Str.ofString "\\\\"] : List Str).getD (i % 3) Str.empty
section
variable {i : Nat}
theorem fm3 {i c : Nat} (h : (0 + (i : Int)).fmod 3 = (c : Int)) : i % 3 = c := by
  rw [Int.zero_add, Int.fmod_eq_emod_of_nonneg _ (by decide)] at h; omega
theorem tn97 : (97 + (0 + (i : Int))).toNat = 97 + i := by omega
theorem sign0 (h : (0 + (i : Int)).fmod 3 = 0) : { cps := #[(97 + (0 + (i : Int))).toNat] } ++ Str.ofString "" = signF i := by
  rw [tn97]; unfold signF; rw [fm3 (c := 0) h]; rfl
theorem sign1 (h : (0 + (i : Int)).fmod 3 = 1) : { cps := #[(97 + (0 + (i : Int))).toNat] } ++ Str.ofString "\\\"" = signF i := by
  rw [tn97]; unfold signF; rw [fm3 (c := 1) h]; rfl
theorem sign2 (h : (0 + (i : Int)).fmod 3 = 2) : { cps := #[(97 + (0 + (i : Int))).toNat] } ++ Str.ofString "\\\\" = signF i := by
  rw [tn97]; unfold signF; rw [fm3 (c := 2) h]; rfl
end
theorem word_in (i : Nat) : Builtin.bitXor (0 + (i : Int)) ((0 + (i : Int)).fdiv 2) = wordF i := by
  unfold wordF
  rw [Int.zero_add]
theorem le63 {n : Nat} (h : ¬ ((63 : Nat) : Int) < (n : Int)) : n ≤ 63 := by omega
theorem strs_grow {f : Nat → Str} {i : Nat} {vs : List Value} {z : Str} {t : Tok} (h : StrsAre vs ((List.range i).map f)) (hz : z = f i) : StrsAre (vs ++ [.str z t]) ((List.range (i + 1)).map f) := by
  rw [List.range_succ, List.map_append, List.map_singleton, ← hz]
  exact strs_snoc h
theorem cellsLt (S : Nat) (h1 : 75 < S) (h2 : 68 < S) : @LT.lt Nat _ 75 (S + 1) ∧ @LT.lt Nat _ 68 (S + 1) ∧ @LT.lt Nat _ (S + 1) (S + 1 + 1) ∧ @LT.lt Nat _ (S + 1) (S + 1 + 1 + 1) ∧ @LT.lt Nat _ (S + 1) (S + 1 + 1 + 1 + 1) ∧ @LT.lt Nat _ (S + 1) (S + 1 + 1 + 1 + 1 + 1) ∧ @LT.lt Nat _ (S + 1) (S + 1 + 1 + 1 + 1 + 1 + 1) ∧ @LT.lt Nat _ (S + 1) (S + 1 + 1 + 1 + 1 + 1 + 1 + 1) ∧ @LT.lt Nat _ (S + 1) (S + 1 + 1 + 1 + 1 + 1 + 1 + 1 + 1) ∧ @LT.lt Nat _ (S + 1) (S + 1 + 1 + 1 + 1 + 1 + 1 + 1 + 1 + 1) ∧ @LT.lt Nat _ 75 (S + 1 + 1) ∧ @LT.lt Nat _ 68 (S + 1 + 1) ∧ @LT.lt Nat _ (S + 1 + 1) (S + 1 + 1 + 1) ∧ @LT.lt Nat _ (S + 1 + 1) (S + 1 + 1 + 1 + 1) ∧ @LT.lt Nat _ (S + 1 + 1) (S + 1 + 1 + 1 + 1 + 1) ∧ @LT.lt Nat _ (S + 1 + 1) (S + 1 + 1 + 1 + 1 + 1 + 1) ∧ @LT.lt Nat _ (S + 1 + 1) (S + 1 + 1 + 1 + 1 + 1 + 1 + 1) ∧ @LT.lt Nat _ (S + 1 + 1) (S + 1 + 1 + 1 + 1 + 1 + 1 + 1 + 1) ∧ @LT.lt Nat _ (S + 1 + 1) (S + 1 + 1 + 1 + 1 + 1 + 1 + 1 + 1 + 1) ∧ @LT.lt Nat _ 75 (S + 1 + 1 + 1) ∧ @LT.lt Nat _ 68 (S + 1 + 1 + 1) ∧ @LT.lt Nat _ (S + 1 + 1 + 1) (S + 1 + 1 + 1 + 1) ∧ @LT.lt Nat _ (S + 1 + 1 + 1) (S + 1 + 1 + 1 + 1 + 1) ∧ @LT.lt Nat _ (S + 1 + 1 + 1) (S + 1 + 1 + 1 + 1 + 1 + 1) ∧ @LT.lt Nat _ (S + 1 + 1 + 1) (S + 1 + 1 + 1 + 1 + 1 + 1 + 1) ∧ @LT.lt Nat _ (S + 1 + 1 + 1) (S + 1 + 1 + 1 + 1 + 1 + 1 + 1 + 1) ∧ @LT.lt Nat _ (S + 1 + 1 + 1) (S + 1 + 1 + 1 + 1 + 1 + 1 + 1 + 1 + 1) ∧ @LT.lt Nat _ 75 (S + 1 + 1 + 1 + 1) ∧ @LT.lt Nat _ 68 (S + 1 + 1 + 1 + 1) ∧ @LT.lt Nat _ (S + 1 + 1 + 1 + 1) (S + 1 + 1 + 1 + 1 + 1) ∧ @LT.lt Nat _ (S + 1 + 1 + 1 + 1) (S + 1 + 1 + 1 + 1 + 1 + 1) ∧ @LT.lt Nat _ (S + 1 + 1 + 1 + 1) (S + 1 + 1 + 1 + 1 + 1 + 1 + 1) ∧ @LT.lt Nat _ (S + 1 + 1 + 1 + 1) (S + 1 + 1 + 1 + 1 + 1 + 1 + 1 + 1) ∧ @LT.lt Nat _ (S + 1 + 1 + 1 + 1) (S + 1 + 1 + 1 + 1 + 1 + 1 + 1 + 1 + 1) ∧ @LT.lt Nat _ 75 (S + 1 + 1 + 1 + 1 + 1) ∧ @LT.lt Nat _ 68 (S + 1 + 1 + 1 + 1 + 1) ∧ @LT.lt Nat _ (S + 1 + 1 + 1 + 1 + 1) (S + 1 + 1 + 1 + 1 + 1 + 1) ∧ @LT.lt Nat _ (S + 1 + 1 + 1 + 1 + 1) (S + 1 + 1 + 1 + 1 + 1 + 1 + 1) ∧ @LT.lt Nat _ (S + 1 + 1 + 1 + 1 + 1) (S + 1 + 1 + 1 + 1 + 1 + 1 + 1 + 1) ∧ @LT.lt Nat _ (S + 1 + 1 + 1 + 1 + 1) (S + 1 + 1 + 1 + 1 + 1 + 1 + 1 + 1 + 1) ∧ @LT.lt Nat _ 75 (S + 1 + 1 + 1 + 1 + 1 + 1) ∧ @LT.lt Nat _ 68 (S + 1 + 1 + 1 + 1 + 1 + 1) ∧ @LT.lt Nat _ (S + 1 + 1 + 1 + 1 + 1 + 1) (S + 1 + 1 + 1 + 1 + 1 + 1 + 1) ∧ @LT.lt Nat _ (S + 1 + 1 + 1 + 1 + 1 + 1) (S + 1 + 1 + 1 + 1 + 1 + 1 + 1 + 1) ∧ @LT.lt Nat _ (S + 1 + 1 + 1 + 1 + 1 + 1) (S + 1 + 1 + 1 + 1 + 1 + 1 + 1 + 1 + 1) ∧ @LT.lt Nat _ 75 (S + 1 + 1 + 1 + 1 + 1 + 1 + 1) ∧ @LT.lt Nat _ 68 (S + 1 + 1 + 1 + 1 + 1 + 1 + 1) ∧ @LT.lt Nat _ (S + 1 + 1 + 1 + 1 + 1 + 1 + 1) (S + 1 + 1 + 1 + 1 + 1 + 1 + 1 + 1) ∧ @LT.lt Nat _ (S + 1 + 1 + 1 + 1 + 1 + 1 + 1) (S + 1 + 1 + 1 + 1 + 1 + 1 + 1 + 1 + 1) ∧ @LT.lt Nat _ 75 (S + 1 + 1 + 1 + 1 + 1 + 1 + 1 + 1) ∧ @LT.lt Nat _ 68 (S + 1 + 1 + 1 + 1 + 1 + 1 + 1 + 1) ∧ @LT.lt Nat _ (S + 1 + 1 + 1 + 1 + 1 + 1 + 1 + 1) (S + 1 + 1 + 1 + 1 + 1 + 1 + 1 + 1 + 1) ∧ @LT.lt Nat _ 75 (S + 1 + 1 + 1 + 1 + 1 + 1 + 1 + 1 + 1) ∧ @LT.lt Nat _ 68 (S + 1 + 1 + 1 + 1 + 1 + 1 + 1 + 1 + 1) ∧ @Ne Nat 75 68 := by
  refine ⟨?_, ?_, ?_, ?_, ?_, ?_, ?_, ?_, ?_, ?_, ?_, ?_, ?_, ?_, ?_, ?_, ?_, ?_, ?_, ?_, ?_, ?_, ?_, ?_, ?_, ?_, ?_, ?_, ?_, ?_, ?_, ?_, ?_, ?_, ?_, ?_, ?_, ?_, ?_, ?_, ?_, ?_, ?_, ?_, ?_, ?_, ?_, ?_, ?_, ?_, ?_, ?_, ?_, ?_, ?_⟩ <;> omega
theorem perm1 {h₀ h : Heap} {L : Addr} {a1 a2 a3 a4 a5 c9 c8 c7 c6 c5 c4 c3 c2 c1 p q : Addr × Obj} (N : News h₀ L h [a1, a2, a3, a4, a5, c9, c8, c7, c6, c5, c4, c3, c2, c1, p, q]) : News h₀ L h ([c4, c5, a1] ++ [a2, a3, a4, a5, c9, c8, c7, c6, c3, c2, c1, p, q]) := fun x hx => N x (by
  simp only [List.cons_append, List.nil_append, List.mem_cons, List.not_mem_nil, or_false] at hx ⊢
  rcases hx with e | e | e | e | e | e | e | e | e | e | e | e | e | e | e | e <;> simp [e])
theorem off_tl {I l c : Addr} {tail tl : List (Addr × Obj)} (hown : ∀ p ∈ tl, p ∈ tail ∨ p.1 = I ∨ p.1 = l) (ht : ∀ p ∈ tail, p.1 ≠ c) (hi : c ≠ I) (hl : l ≠ c) : ∀ p ∈ tl, p.1 ≠ c := fun p hp => by
  rcases hown p hp with q | q | q
  · exact ht p q
  · rw [q]; exact hi.symm
  · rw [q]; exact hl
def RowInv (m₀ : Str → Option Value) (cr cl lsh : Addr) (xs : List Int) (f : Int → Str) (I : Addr) (i : Nat) (led : List (Addr × Obj)) (mp : Str → Option Value) : Prop :=
  mp = m₀ ∧ ∃ orow oleft lvs k c1 c2, led = [(cr, orow), (cl, oleft), (lsh, W.listOf lvs.toArray k)] ∧ orow.data = .cell c1 ∧ oleft.data = .cell c2 ∧ StrsAre lvs ((xs.take i).map f) ∧ cr ≠ I ∧ cl ≠ I ∧ lsh ≠ I
theorem rowInv_off {m₀ : Str → Option Value} {cr cl lsh : Addr} {xs : List Int} {f : Int → Str} {I : Addr} {i : Nat} {led : List (Addr × Obj)} {mp : Str → Option Value} (h : RowInv m₀ cr cl lsh xs f I i led mp) : ∀ p ∈ led, p.1 ≠ I := by
  obtain ⟨_, orow, oleft, lvs, k, c1, c2, rfl, _, _, _, n1, n2, n3⟩ := h
  intro p hp
  simp only [List.mem_cons, List.not_mem_nil, or_false] at hp
  rcases hp with rfl | rfl | rfl <;> assumption
section
variable {prog : Program} {w : World} {A : Around} {E : Value → Shared → Prop} {s : Shared} {env : Env} {h₀ : Heap} {x : Str} {body : List Stmt} {R : Result → Shared → Prop} {L : Addr}
theorem row_loop {px : Pos} {lsh lr cr cl : Addr} {rvs : List Value} {kr : Nat} {xs : List Int} {a3 a4 a5 c9 c8 c7 c6 c3 c2 c1 p q : Addr × Obj} {orow oleft : Obj} {k1 k2 : Option Value} {m : Str → Option Value} (f : Int → Str)
    (hh : A.handled = none) (F : Fr h₀ L s.heap m) (N : News h₀ L s.heap [(lsh, W.listOf #[] 0), (lr, W.listOf rvs.toArray kr), a3, a4, a5, c9, c8, c7, c6, (cl, oleft), (cr, orow), c3, c2, c1, p, q]) (hx : IntsAre rvs xs) (d1 : orow.data = .cell k1) (d2 : oleft.data = .cell k2)
    (t1 : ∀ e ∈ [(lr, W.listOf rvs.toArray kr), a3, a4, a5, c9, c8, c7, c6, c3, c2, c1, p, q], e.1 ≠ cr) (t2 : ∀ e ∈ [(lr, W.listOf rvs.toArray kr), a3, a4, a5, c9, c8, c7, c6, c3, c2, c1, p, q], e.1 ≠ cl) (t3 : ∀ e ∈ [(lr, W.listOf rvs.toArray kr), a3, a4, a5, c9, c8, c7, c6, c3, c2, c1, p, q], e.1 ≠ lsh)
    (done : ∀ orow oleft lvs k k1 k2 h tk gs, orow.data = .cell k1 → oleft.data = .cell k2 → StrsAre lvs (xs.map f) → (AllBare s.gens → AllBare gs) → Fr h₀ L h m → News h₀ L h ((cr, orow) :: (cl, oleft) :: (lsh, W.listOf lvs.toArray k) :: [(lr, W.listOf rvs.toArray kr), a3, a4, a5, c9, c8, c7, c6, c3, c2, c1, p, q]) → R (.ok .next) { s with heap := h, toks := tk, gens := gs })
    (turn : ∀ i r tr orow oleft lvs k k1 k2 h tk gs tl, xs[i]? = some r → orow.data = .cell k1 → oleft.data = .cell k2 → StrsAre lvs ((xs.take i).map f) → (AllBare s.gens → AllBare gs) → (∀ e ∈ [(lr, W.listOf rvs.toArray kr), a3, a4, a5, c9, c8, c7, c6, c3, c2, c1, p, q], e ∈ tl) → (∀ e ∈ tl, e.1 ≠ cr) → (∀ e ∈ tl, e.1 ≠ cl) → (∀ e ∈ tl, e.1 ≠ lsh) → Fr h₀ L h m → News h₀ L h ((cr, orow) :: (cl, oleft) :: (lsh, W.listOf lvs.toArray k) :: tl) →
      wpAny (model prog w) A (storeName env x (.int r tr)) (fun _ s₂ => wpAny (model prog w) A (execs body env) (TurnGG h₀ L { s with heap := h, toks := tk, gens := gs } tl (fun led mp => mp = m ∧ ∃ orow oleft lvs k k1 k2, led = [(cr, orow), (cl, oleft), (lsh, W.listOf lvs.toArray k)] ∧ orow.data = .cell k1 ∧ oleft.data = .cell k2 ∧ StrsAre lvs ((xs.take (i + 1)).map f))) (notedBy (model prog w) A env fun e s' => R (.error e) s') s₂) (notedBy (model prog w) A env fun e s' => R (.error e) s') { s with heap := h, toks := tk, gens := gs }) :
    wpAny (model prog w) A (pyIter (.ref lr)) (fun it s₂ => codeAny (model prog w) A (.forLoop (.Name x px) it body [] env) R s₂) E s := by
  refine listG (RowInv m cr cl lsh xs f) hh ⟨_, (N _ (.tail _ (.head _))).1, rfl, _, rfl⟩ (N _ (.tail _ (.head _))).2.1 F (perm1 N) (fun I i led mp h => rowInv_off h) ?_ ?_ ?_
  · intro I hI
    exact ⟨rfl, orow, oleft, [], 0, k1, k2, rfl, d1, d2, .nil, Nat.ne_of_lt (hI (cr, orow) (.head _)), Nat.ne_of_lt (hI (cl, oleft) (.tail _ (.head _))), Nat.ne_of_lt (hI (lsh, W.listOf #[] 0) (.tail _ (.tail _ (.head _))))⟩
  · rintro I led mp h tk gs ⟨e0, orow, oleft, lvs, k, k1, k2, rfl, d1, d2, hs, _, _, _⟩ hg F' N'
    rw [hx.length, List.take_length] at hs
    rw [e0] at F'
    exact done orow oleft lvs k k1 k2 h tk gs d1 d2 hs hg F' N'
  · rintro I i v led mp h tk gs tl hv ⟨e0, orow, oleft, lvs, k, k1, k2, rfl, d1, d2, hs, n1, n2, n3⟩ hg hsub _ hown _ F' N'
    obtain ⟨r, tr, rfl, hr⟩ := hx.at i v hv
    rw [e0] at F'
    refine wpAny_mono (turn i r tr orow oleft lvs k k1 k2 h tk gs tl hr d1 d2 hs hg hsub (off_tl hown t1 n1 (t1 _ (.head _))) (off_tl hown t2 n2 (t2 _ (.head _))) (off_tl hown t3 n3 (t3 _ (.head _))) F' N') (fun _ s₂ h₂ => wpAny_mono h₂ (fun fl s₃ h₃ => ?_) fun _ _ e => e) fun _ _ e => e
    have fin : ∀ s₃, EndG h₀ L { s with heap := h, toks := tk, gens := gs } tl (fun led mp => mp = m ∧ ∃ orow oleft lvs k k1 k2, led = [(cr, orow), (cl, oleft), (lsh, W.listOf lvs.toArray k)] ∧ orow.data = .cell k1 ∧ oleft.data = .cell k2 ∧ StrsAre lvs ((xs.take (i + 1)).map f)) s₃ → EndG h₀ L { s with heap := h, toks := tk, gens := gs } tl (RowInv m cr cl lsh xs f I (i + 1)) s₃ := by
      rintro s₃ ⟨led, mp, h', tk', gs', all, e, hg', F₃, N₃, hs₃, e1, orow, oleft, lvs, k, k1, k2, e2, d1, d2, hs⟩
      exact ⟨led, mp, h', tk', gs', all, e, hg', F₃, N₃, hs₃, e1, orow, oleft, lvs, k, k1, k2, e2, d1, d2, hs, n1, n2, n3⟩
    cases fl with
    | next => exact fin s₃ h₃
    | cont => exact fin s₃ h₃
    | brk => exact h₃
    | ret v => exact h₃
end
theorem strs_at : ∀ {vs : List Value} {ys : List Str}, StrsAre vs ys → ∀ (i : Nat) (v : Value), vs[i]? = some v → ∃ y t, v = .str y t ∧ ys[i]? = some y := by
  intro vs ys h
  induction h with
  | nil => intro i v e; simp at e
  | cons y t _ ih =>
    intro i v e
    cases i with
    | zero => simp at e; exact ⟨y, t, e.symm, rfl⟩
    | succ i => exact ih i v (by simpa using e)
theorem filter_snoc {p : Str → Bool} {ys : List Str} {i : Nat} {y : Str} (h : ys[i]? = some y) : (ys.take (i + 1)).filter p = if p y = true then (ys.take i).filter p ++ [y] else (ys.take i).filter p := by
  rw [List.take_add_one, h]
  simp only [Option.toList, List.filter_append]
  by_cases hc : p y = true
  · rw [if_pos hc, List.filter_cons, if_pos hc]; rfl
  · rw [if_neg hc, List.filter_cons, if_neg hc]; simp
theorem has_yes {x y : Str} (h : (Builtin.Str.occurrences x y 0 x.length 1).isEmpty = false) : Txt.contains x y = true := by
  unfold Txt.contains; rw [h]; rfl
theorem has_no {x y : Str} (h : (Builtin.Str.occurrences x y 0 x.length 1).isEmpty = true) : ¬ Txt.contains x y = true := by
  unfold Txt.contains; rw [h]; decide
theorem take_snoc {xs : List Int} {f : Int → Str} {i : Nat} {r : Int} (h : xs[i]? = some r) : (xs.take (i + 1)).map f = (xs.take i).map f ++ [f r] := by
  rw [List.take_add_one, h]; simp
theorem row_end {h₀ h' : Heap} {L cr cl lsh : Addr} {s : Shared} {tl all : List (Addr × Obj)} {m : Str → Option Value} {tk k i : Nat} {gs : Array GenState} {orow oleft : Obj} {lvs : List Value} {k1 k2 : Option Value} {xs : List Int} {f : Int → Str}
    (F : Fr h₀ L h' m) (N : News h₀ L h' all) (m1 : (cr, orow) ∈ all) (m2 : (cl, oleft) ∈ all) (m3 : (lsh, W.listOf lvs.toArray k) ∈ all) (hs : ∀ e ∈ tl, e ∈ all) (hg : AllBare s.gens → AllBare gs) (d1 : orow.data = .cell k1) (d2 : oleft.data = .cell k2) (hv : StrsAre lvs ((xs.take (i + 1)).map f)) :
    TurnGG h₀ L s tl (fun led mp => mp = m ∧ ∃ orow oleft lvs k k1 k2, led = [(cr, orow), (cl, oleft), (lsh, W.listOf lvs.toArray k)] ∧ orow.data = .cell k1 ∧ oleft.data = .cell k2 ∧ StrsAre lvs ((xs.take (i + 1)).map f)) .next { s with heap := h', toks := tk, gens := gs } :=
  turnGG [(cr, orow), (cl, oleft), (lsh, W.listOf lvs.toArray k)] F N hg (fun e he => by
    simp only [List.cons_append, List.nil_append, List.mem_cons] at he
    rcases he with rfl | rfl | rfl | he
    · exact m1
    · exact m2
    · exact m3
    · exact hs e he) ⟨rfl, orow, oleft, lvs, k, k1, k2, rfl, d1, d2, hv⟩
end
section
-- NumWrit
set_option maxHeartbeats 1000000
open NumText
/-- the text of an int, its letters and its reading -/
theorem num_cps (n : Nat) : (Str.ofString (Nat.repr n)).cps.toList = (Nat.toDigits 10 n).map Char.toNat := by
  rw [signs_ofString, Nat.toList_repr]
theorem num_all (n : Nat) : AllDigits ((Nat.toDigits 10 n).map Char.toNat) := by
  intro c hc
  obtain ⟨ch, hch, e⟩ := List.mem_map.mp hc
  have r := digit_range (Nat.isDigit_of_mem_toDigits (by decide) (by decide) hch)
  rw [← e]; exact r
theorem num_ne (n : Nat) : (Nat.toDigits 10 n).map Char.toNat ≠ [] := by
  intro e
  have h := toDigits_len_ge 10 n
  rw [List.map_eq_nil_iff.mp e] at h
  exact absurd h (by decide)
theorem num_len {n : Nat} (h : n < 10 ^ 40) : ((Nat.toDigits 10 n).map Char.toNat).length ≤ 40 := by
  rw [List.length_map]
  have := toString_length_le (v := (n : Int)) (k := 40) (by omega) (by decide) (by exact_mod_cast h)
  have e : (Str.ofString (toString (n : Int))).length = (Str.ofString (toString (n : Int))).cps.toList.length := by simp [Str.length]
  rw [e] at this
  have e2 : (Str.ofString (toString (n : Int))).cps.toList = (Nat.toDigits 10 n).map Char.toNat := num_cps n
  rw [e2, List.length_map] at this
  exact this
theorem int_cps (z : Int) : (Str.ofString (toString z)).cps.toList = if z < 0 then 45 :: (Nat.toDigits 10 z.natAbs).map Char.toNat else (Nat.toDigits 10 z.natAbs).map Char.toNat := by
  cases z with
  | ofNat n => rw [if_neg (by simp)]; exact num_cps n
  | negSucc n =>
    rw [if_pos (Int.negSucc_lt_zero n), signs_ofString]
    show ("-" ++ Nat.repr (n + 1)).toList.map Char.toNat = _
    rw [String.toList_append, List.map_append, Nat.toList_repr]; rfl
theorem int_letters {z : Int} : ∀ c ∈ (Str.ofString (toString z)).cps.toList, c ∈ [48, 49, 50, 51, 52, 53, 54, 55, 56, 57, 45] := by
  intro c hc
  rw [int_cps] at hc
  have key : ∀ c ∈ (Nat.toDigits 10 z.natAbs).map Char.toNat, c ∈ [48, 49, 50, 51, 52, 53, 54, 55, 56, 57, 45] := by
    intro c hc
    have := num_all _ c hc
    exact (by decide : ∀ c, c < 58 → 48 ≤ c → c ∈ ([48, 49, 50, 51, 52, 53, 54, 55, 56, 57, 45] : List Nat)) c (Nat.lt_succ_of_le this.2) this.1
  split at hc
  · rcases List.mem_cons.mp hc with rfl | hc
    · decide
    · exact key c hc
  · exact key c hc
theorem int_len {z : Int} (h : z.natAbs < 10 ^ 40) : (Str.ofString (toString z)).length ≤ 41 := by
  have e : (Str.ofString (toString z)).length = (Str.ofString (toString z)).cps.toList.length := by simp [Str.length]
  rw [e, int_cps]
  have := num_len h
  split
  · rw [List.length_cons]; omega
  · omega
theorem int_reads {z : Int} (h : z.natAbs < 10 ^ 40) : PySem.intText? (Str.ofString (toString z)) = some z := by
  have hl := int_len h
  have hc := int_cps z
  by_cases hz : z < 0
  · rw [if_pos hz] at hc
    rw [intText_neg hc (num_all _) (num_ne _) (by omega), KIN.val_back]
    congr 1; omega
  · rw [if_neg hz] at hc
    rw [intText_digits (by rw [hc]; exact num_all _) (by rw [hc]; exact num_ne _) (by omega), hc, KIN.val_back]
    congr 1; omega
theorem int_value {z : Int} : ∀ p, p < (Str.ofString (toString z)).cps.size → NoHit valueCode ((Str.ofString (toString z)).cps.getD p 0) := fun p hp => by
  refine value_ok (int_letters (z := z) _ ?_)
  rw [Array.getD_eq_getD_getElem?, Array.getElem?_eq_getElem hp]
  simp
end
section
-- Base
set_option maxHeartbeats 4000000

/-- a call of `f` on `vs` from any frame, over a ledger `news`: it comes back with `v` and the ledger `news'`, as `Post` says -/
def Spec (w : World) (f : Addr) (d : Nat) (vs : List Value) (news : List (Addr × Obj)) (Post : Value → List (Addr × Obj) → Prop) : Prop :=
  ∀ (p : Program) (loose : List Str) (mean : ExcName → Option Value) (mg mb : Str → Option Value)
    (dp un : Nat) (gd : Option (List Code)) (cn : Str) (cs : Scope) (a : Addr) (ccd : Value) (cl : List (Str × Addr)) (outer : List Env) (A₀ : Around) (base h₀ : Heap) (L : Addr) (m : Str → Option Value) (s : Shared) (Q E : Value → Shared → Prop),
    cs.kind = .function → Below A₀ base outer h₀ → Fr h₀ L s.heap m → (hd02.heap_1 w.params).In h₀ → News h₀ L s.heap news → Top p loose mean mg mb h₀ →
    CodeHd base 72 68 → CodeHd base 79 75 →
    dp + d < recursionLimit → un + 8 * d < cLine →
    (∀ v news' h' tk', Fr h₀ L h' m → News h₀ L h' news' → Post v news' → Q v { s with heap := h', toks := tk' }) →
    wpAny (model PySem.Challenge.rw_sw0076_02.row.prog w) (ktrTop dp un gd cn cs L a ccd cl outer) (call (.ref f) vs) Q E s

theorem Spec.use {w : World} {f : Addr} {d : Nat} {vs : List Value} {news : List (Addr × Obj)} {Post : Value → List (Addr × Obj) → Prop} (S : Spec w f d vs news Post)
    {p : Program} {loose : List Str} {mean : ExcName → Option Value} {mg mb : Str → Option Value}
    {dp un : Nat} {gd : Option (List Code)} {cn : Str} {cs : Scope} {a : Addr} {ccd : Value} {cl : List (Str × Addr)} {outer : List Env} {A₀ : Around} {base h₀ : Heap} {L : Addr} {m : Str → Option Value} {s : Shared} {Q E : Value → Shared → Prop}
    (hk : cs.kind = .function) (B : Below A₀ base outer h₀) (F : Fr h₀ L s.heap m) (X : (hd02.heap_1 w.params).In h₀) (N : News h₀ L s.heap news) (T : Top p loose mean mg mb h₀)
    (C1 : CodeHd base 72 68) (C2 : CodeHd base 79 75) (hd : dp + d < recursionLimit) (hu : un + 8 * d < cLine)
    (ret : ∀ v news' h' tk', Fr h₀ L h' m → News h₀ L h' news' → Post v news' → Q v { s with heap := h', toks := tk' }) :
    wpAny (model PySem.Challenge.rw_sw0076_02.row.prog w) (ktrTop dp un gd cn cs L a ccd cl outer) (call (.ref f) vs) Q E s :=
  S p loose mean mg mb dp un gd cn cs a ccd cl outer A₀ base h₀ L m s Q E hk B F X N T C1 C2 hd hu ret

abbrev tupObj (vs : List Value) : Obj := { cls := .type "tuple", data := .seq vs.toArray }

/-- a new tuple of two ints -/
def Pair (news : List (Addr × Obj)) (q r : Int) (v : Value) (news' : List (Addr × Obj)) : Prop :=
  ∃ (x : Addr) (t1 t2 : Tok), v = .ref x ∧ news' = (x, { cls := .type "tuple", data := .seq #[.int q t1, .int r t2] }) :: news ∧ ∀ p ∈ news, p.1 < x
/-- an int, and nothing of the caller's turned -/
def IntIs (news : List (Addr × Obj)) (q : Int) (v : Value) (news' : List (Addr × Obj)) : Prop :=
  ∃ (t : Tok), v = .int q t ∧ news' = news

theorem mem_tail {p q : Addr × Obj} {l : List (Addr × Obj)} (h : p ∈ l) : p ∈ q :: l := List.Mem.tail _ h
theorem sub_cons {a : Addr × Obj} {l r : List (Addr × Obj)} (h : ∀ p ∈ l, p ∈ r) : ∀ p ∈ l, p ∈ a :: r := fun p hp => .tail _ (h p hp)
theorem sub_refl {l : List (Addr × Obj)} : ∀ p ∈ l, p ∈ l := fun _ h => h
theorem allLt_all {d : Addr} : ∀ {l : List (Addr × Obj)}, AllLt d l → ∀ p ∈ l, p.1 < d := by
  intro l
  induction l with
  | nil => intro _ p hp; exact nomatch hp
  | cons q r ih =>
    intro h p hp
    rcases List.mem_cons.mp hp with e | e
    · rw [e]; exact h.1
    · exact ih h.2 p e
theorem allLt_hd {d a : Addr} {o : Obj} {l : List (Addr × Obj)} (h : AllLt d ((a, o) :: l)) : @LT.lt Nat _ a d := h.1
theorem allLt_tl {d : Addr} {e : Addr × Obj} {l : List (Addr × Obj)} (h : AllLt d (e :: l)) : AllLt d l := h.2
theorem room0 {d k L : Nat} (h : d + k < L) : d < L := Nat.lt_of_le_of_lt (Nat.le_add_right d k) h
theorem room1 {d k b a L : Nat} (h : d + k < L) (e : b + a ≤ k) : d + b + a < L := by
  rw [Nat.add_assoc]; exact Nat.lt_of_le_of_lt (Nat.add_le_add_left e d) h
theorem room2 {d k b L : Nat} (h : d + k < L) (e : b ≤ k) : d + b < L := Nat.lt_of_le_of_lt (Nat.add_le_add_left e d) h
theorem lt_size {h₀ h : Heap} {L : Addr} {news : List (Addr × Obj)} (N : News h₀ L h news) : ∀ p ∈ news, p.1 < h.objs.size := fun p hp => Heap.lt_size (N p hp).1

theorem int_ret {h₀ : Heap} {L : Addr} {m : Str → Option Value} {news all : List (Addr × Obj)} {s : Shared} {Q : Value → Shared → Prop} {q q' : Int}
    (hret : ∀ v news' h' tk', Fr h₀ L h' m → News h₀ L h' news' → IntIs news q v news' → Q v { s with heap := h', toks := tk' })
    {t : Tok} {h' : Heap} {tk' : Nat} (F : Fr h₀ L h' m) (N : News h₀ L h' all) (hs : ∀ p ∈ news, p ∈ all) (hq : q' = q) : Q (.int q' t) { s with heap := h', toks := tk' } := by
  subst hq
  exact hret (.int q' t) news h' tk' F (fun p hp => N p (hs p hp)) ⟨t, rfl, rfl⟩
/-- the table P of inner code objects: empty, or with the one inner code at hand -/
def TabSt (line col : Int) (qual : Str) (_P : Addr) (ps : Array Value) (news : List (Addr × Obj)) : Prop :=
  ps = #[] ∨ ∃ (c : Addr) (oc : Obj) (vs : Array Value) (t : Tok), ps = #[rawInt line, rawInt col, .ref c] ∧ (c, oc) ∈ news ∧ oc.data = .fields vs ∧ vs[1]? = some (.str qual t) ∧ @LT.lt Nat _ 75 c
/-- .. behind a call: it holds the inner code -/
def TabIs (line col : Int) (qual : Str) (P : Addr) (news news' : List (Addr × Obj)) : Prop :=
  ∃ (c : Addr) (oc : Obj) (vs : Array Value) (t : Tok), news' = (P, tabObj #[rawInt line, rawInt col, .ref c]) :: (c, oc) :: news ∧ oc.data = .fields vs ∧ vs[1]? = some (.str qual t) ∧ @LT.lt Nat _ 75 c
def Off (P : Addr) (news : List (Addr × Obj)) : Prop := ∀ p ∈ news, p.1 ≠ P
theorem ne_at0 {d : Addr} {l : List (Addr × Obj)} (h : AllLt d l) : ∀ p ∈ l, p.1 ≠ d := fun p hp => Nat.ne_of_lt (allLt_all h p hp)
theorem ne_at1 {d : Nat} {l : List (Addr × Obj)} (h : AllLt d l) : ∀ p ∈ l, p.1 ≠ d + 1 := fun p hp => Nat.ne_of_lt (Nat.lt_succ_of_lt (allLt_all h p hp))
theorem ne_at2 {d : Nat} {l : List (Addr × Obj)} (h : AllLt d l) : ∀ p ∈ l, p.1 ≠ d + 1 + 1 := fun p hp => Nat.ne_of_lt (Nat.lt_succ_of_lt (Nat.lt_succ_of_lt (allLt_all h p hp)))
theorem ne_at3 {d : Nat} {l : List (Addr × Obj)} (h : AllLt d l) : ∀ p ∈ l, p.1 ≠ d + 1 + 1 + 1 := fun p hp => Nat.ne_of_lt (Nat.lt_succ_of_lt (Nat.lt_succ_of_lt (Nat.lt_succ_of_lt (allLt_all h p hp))))
section
variable {prog : Program} {w : World} {A : Around} {E : Value → Shared → Prop} {s : Shared} {h₀ : Heap} {L D : Addr} {m : Str → Option Value} {news news' : List (Addr × Obj)} {n : Nat} {x : Value} {vs : List Value} {Q : Value → Shared → Prop}
theorem append_L (F : Fr h₀ L s.heap m) (N : News h₀ L s.heap news) (U : Upd D (W.listOf vs.toArray n) (W.listOf (vs ++ [x]).toArray (n + 1)) news news')
    (h : ∀ h', Fr h₀ L h' m → News h₀ L h' news' → Q .none { s with heap := h' }) (hsz : vs.length ≤ sizeLine) : wpAny (model prog w) A (call (.builtin "list.append") [.ref D, x]) Q E s := by
  have e : (vs ++ [x]).toArray = vs.toArray.push x := by simp
  rw [e] at U
  exact append_K F N U h (by simpa using hsz)
theorem reverse_L (F : Fr h₀ L s.heap m) (N : News h₀ L s.heap news) (U : Upd D (W.listOf vs.toArray n) (W.listOf vs.reverse.toArray n) news news')
    (h : ∀ h', Fr h₀ L h' m → News h₀ L h' news' → Q .none { s with heap := h' }) (hsz : vs.length ≤ sizeLine) : wpAny (model prog w) A (call (.builtin "list.reverse") [.ref D]) Q E s :=
  kl_reverse F N (by simp) U (by simpa using hsz) h
theorem ints_snoc {vs : List Value} {ns : List Int} {x : Int} {t : Tok} (h : IntsAre vs ns) : IntsAre (vs ++ [.int x t]) (ns ++ [x]) := IntsAre.append h (.cons _ _ .nil)
end
end
local macro_rules | `(tactic| k_lt $h:ident) => `(tactic| ((replace $h := allLt_of $h); (repeat ((have l9 := allLt_hd $h); (replace $h := allLt_tl $h)))))
local macro_rules | `(tactic| k_mem) => `(tactic| first | exact List.Mem.head _ | ktr_member | (refine' mem_tail ?_; k_mem))
local macro_rules | `(tactic| is_list) => `(tactic| first | (with_reducible assumption) | exact News.isList (by k_asm) (by k_mem))
local macro_rules | `(tactic| k_all) => `(tactic| first | (with_reducible assumption) | exact ne_at0 (by with_reducible assumption) | exact ne_at1 (by with_reducible assumption) | exact ne_at2 (by with_reducible assumption) | exact ne_at3 (by with_reducible assumption))
local macro_rules | `(tactic| walk_at "SUB") => `(tactic| (repeat' (first | exact sub_refl | with_reducible assumption | refine sub_cons ?_)))
local macro_rules | `(tactic| walk_at "call builtin:list.append") => `(tactic| (k_here; (k_dflt (refine' append_L (by k_asm) (by k_asm) (by k_upd) ?_ ?_; k_whole)); intro h' F' N'; (try k_sweep)))
local macro_rules | `(tactic| k_ne) => `(tactic| first | with_reducible assumption | exact Nat.ne_of_lt (by with_reducible assumption) | exact Nat.ne_of_gt (by with_reducible assumption) | exact Ne.symm (by with_reducible assumption) | fail)
local macro_rules | `(tactic| ktr_room) => `(tactic| first | exact room1 (by with_reducible assumption) (by decide) | exact room0 (by assumption) | exact room2 (by assumption) (by decide) | fail)
local macro_rules | `(tactic| ktr_units) => `(tactic| first | exact room1 (by with_reducible assumption) (by decide) | fail)
section
-- Div
set_option maxHeartbeats 1000000

theorem divmod_V {prog : Program} {w : World} {A : Around} {E : Value → Shared → Prop} {s : Shared} {a b : Int} {t u : Tok} {Q : Value → Shared → Prop} {h₀ : Heap} {L : Addr} {m : Str → Option Value} {news : List (Addr × Obj)} (F : Fr h₀ L s.heap m) (N : News h₀ L s.heap news) (hb : b ≠ 0)
    (hp : Builtin.divisionGoesByPylong a b = false)
    (h : ∀ (x : Addr) (t1 t2 : Tok) h' tk', Fr h₀ L h' m → News h₀ L h' ((x, { cls := .type "tuple", data := .seq #[.int (a.fdiv b) t1, .int (a.fmod b) t2] }) :: news) → (∀ p ∈ news, p.1 < x) → Q (.ref x) { s with toks := tk', heap := h' }) :
    wpAny (model prog w) A (call (.builtin "divmod") [.int a t, .int b u]) Q E s :=
  divmod_N F N hb (fun h' F' N' => h _ _ _ _ _ F' N' (lt_size N)) (Or.inl hp)

local macro_rules | `(tactic| walk_at "call builtin:divmod") => `(tactic| (k_here; k_dflt (refine' divmod_V (by k_asm) (by k_asm) (by assumption) (by assumption) ?_; k_whole); intro x' t1' t2' h' tk' F' N' l1; (try k_lt l1)))

theorem div2_0 (w : World) (a b n : Int) (ta tb tn : Tok) (hb : b ≠ 0) (hp : Builtin.divisionGoesByPylong a b = false) (hn : (Builtin.Int.intBits a : Int) - n ≤ 4000) (news : List (Addr × Obj)) :
    Spec w 59 1 [.int a ta, .int b tb, .int n tn] news (Pair news (a.fdiv b) (a.fmod b)) := by
  have zz : PySem.Challenge.rw_sw0076_02 = PySem.Challenge.rw_sw0076_02 := rfl
  revert zz
  unfold Spec
  k_fill
  intro zz p loose mean mg mb dp un gd cn cs a' ccd cl outer A₀ base h₀ L m s Q E hk B F X N T C1 C2 hd hu hret
  clear zz
  refine wpAny_call ?_
  k_dflt cell_enter
  k_steps
  refine hret _ _ _ _ (by assumption) (by assumption) ⟨_, _, _, rfl, rfl, by first | assumption | exact allLt_all (by with_reducible assumption)⟩
end
section
-- Tab
set_option maxHeartbeats 1000000

section
variable {M : Model} {A : Around} {E : Value → Shared → Prop} {s : Shared} {h₀ : Heap} {L a c P : Addr} {m mg mb : Str → Option Value} {cn : Str} {cs : Scope} {ccd : Value} {cl : List (Str × Addr)} {news rest : List (Addr × Obj)} {g : Obj → List (Addr × Obj)}
  {p : Program} {loose : List Str} {mean : ExcName → Option Value} {name qual : Str} {params : Arguments} {body : List Stmt} {scope : Scope} {ps : Array Value} {pos : Pos} {firstLine : Nat} {clos : List (Str × Addr)}
/-- a def statement, whatever the table of inner codes holds: it holds this one's behind it -/
theorem nest_T {Q : Value → Shared → Prop} {line col : Int} {d : Addr} {od : Obj} (F : Fr h₀ L s.heap m) (N : News h₀ L s.heap news) (T : Top p loose mean mg mb h₀) (C : CodeHd h₀ c P) (hcd : ccd = .ref c) (U : UpdF P (tabObj ps) news g)
    (hst : TabSt line col qual P ps rest) (hline : (pos.line : Int) = line) (hcol : (pos.col : Int) = col) (hsub : ∀ q ∈ rest, q ∈ news) (hL : ∀ q ∈ rest, q.1 < L) (hdm : (d, od) ∈ news) (hPd : @LT.lt Nat _ 75 d)
    (hcl : closureFor scope (envX cn cs L a ccd cl) = pure clos)
    (h : ∀ f c' oc vs t ctv doc h' tk, Fr h₀ L h' m →
      News h₀ L h' ((f, fnMade name qual params body scope clos doc ((mg "__name__").getD .none) c' ctv) :: (c', oc) :: g (tabObj #[rawInt line, rawInt col, .ref c'])) →
      oc.data = .fields vs → vs[1]? = some (.str qual t) → @LT.lt Nat _ 75 c' → (@LT.lt Nat _ c' L ∨ @LT.lt Nat _ d c') → (∀ q ∈ news, q.1 < f) → Q (.ref f) { s with heap := h', toks := tk }) :
    wpAny M A (makeFunction name qual params (.stmts body) scope (envX cn cs L a ccd cl) [] [] [] pos firstLine) Q E s := by
  obtain ⟨pre, post, hn, hg, h1, h2⟩ := U.split
  have hPm : (P, tabObj ps) ∈ news := by rw [hn]; exact List.mem_append_right _ (.head _)
  subst hline
  subst hcol
  rcases hst with e | ⟨c', oc, vs, t, e, hm, d1, d2, hlt⟩
  · subst e
    refine nest_K F N T C hcd U True.intro rfl hcl fun f c' oc vs t ctv doc h' tk F' N' d1 d2 l1 l2 => ?_
    refine h f c' oc vs t ctv doc h' tk F' ?_ d1 d2 (Nat.lt_trans hPd (l1 _ hdm)) (.inr (l1 _ hdm)) fun q hq => Nat.lt_trans (l1 q hq) l2
    have e : (#[] : Array Value) ++ #[rawInt pos.line, rawInt pos.col, .ref c'] = #[rawInt pos.line, rawInt pos.col, .ref c'] := by simp
    rw [e] at N'
    exact N'
  · subst e
    refine nestHit_K F N T C hcd hPm True.intro (codeAmong_snoc [] True.intro rfl) hcl fun f ctv doc h' tk F' N' l1 => ?_
    refine h f c' oc vs t ctv doc h' tk F' ?_ d1 d2 hlt (.inl (hL _ hm)) l1
    intro q hq
    rcases List.mem_cons.mp hq with e | hq
    · exact N' q (e ▸ .head _)
    · rcases List.mem_cons.mp hq with e | hq
      · exact N' q (.tail _ (e ▸ hsub _ hm))
      · rw [hg, ← hn] at hq
        exact N' q (.tail _ hq)
end
end
section
local macro_rules | `(tactic| walk_at "DM") => `(tactic| exact List.Mem.head _)
local macro_rules | `(tactic| walk_at "exec FunctionDef") => `(tactic| (k_here; kn_here; k_dflt (refine' nestDef_K ?d0 ?k0 ?a0 ?_; (case d0 => exact rfl); (case k0 => exact rfl); (case a0 => exact rfl)); (k_dflt (refine' nest_T (rest := ?rest) ?F ?N ?T ?C ?cd ?U ?st ?li ?co ?su ?hL ?dm ?pd ?cl ?_; (case F => k_asm); (case N => k_asm); (case T => k_asm); (case cd => exact rfl); (case C => kn_code); (case U => k_updF); (case st => assumption); (case li => exact rfl); (case co => exact rfl); (case su => walk_at "SUB"); (case hL => exact allLt_all (by with_reducible assumption)); (case dm => walk_at "DM"); (case pd => ((try dsimp only); omega)); (case cl => exact rfl); k_whole)); intro f' c' oc' vs' t' ct' dc' h' tk' F' N' d1' d2' l0 l2 l1; (try dsimp only at N'); (try k_lt l1)))
local macro_rules | `(tactic| walk_at "binaryOp LShift int int") => `(tactic| (k_here; (with_reducible refine lshift_int ?_ ?_ ?_)))
local macro_rules | `(tactic| walk_at "binaryOp Mult int int") => `(tactic| (k_here; (with_reducible refine mul_int ?_ ?_)))
section
-- D2I
set_option maxHeartbeats 1000000

theorem Spec.mono {w : World} {f : Addr} {d d' : Nat} {vs : List Value} {news : List (Addr × Obj)} {Post : Value → List (Addr × Obj) → Prop} (S : Spec w f d vs news Post) (h : d ≤ d') : Spec w f d' vs news Post :=
  fun p loose mean mg mb dp un gd cn cs a ccd cl outer A₀ base h₀ L m s Q E hk B F X N T C1 C2 hd hu ret => S p loose mean mg mb dp un gd cn cs a ccd cl outer A₀ base h₀ L m s Q E hk B F X N T C1 C2 (by omega) (by omega) ret

/-- the closure over n, itself and the digits: what a call of it gives -/
def D2I (w : World) (f' : Addr) (fo : Obj) (c' ci cn cd l : Addr) (oc oi on od ol : Obj) (ns : List Int) (n : Int) (kk : Nat) : Prop :=
  ∀ (news : List (Addr × Obj)) (a b : Int) (ta tb : Tok), (f', fo) ∈ news → (c', oc) ∈ news → (ci, oi) ∈ news → (cn, on) ∈ news → (cd, od) ∈ news → (l, ol) ∈ news →
    0 ≤ a → a < b → b ≤ (ns.length : Int) → b - a ≤ (kk : Int) → Spec w f' kk [.int a ta, .int b tb] news (IntIs news (pieceV n.toNat ns a b))
theorem d2i_rec {w : World} {f' : Addr} {fo : Obj} {c' ci cn cd l : Addr} {oc oi on od ol : Obj} {ns : List Int} {n : Int} {kk : Nat} (ih : ∀ j, j < kk → D2I w f' fo c' ci cn cd l oc oi on od ol ns n j)
    {news : List (Addr × Obj)} {a b : Int} {ta tb : Tok} (m1 : (f', fo) ∈ news) (m2 : (c', oc) ∈ news) (m3 : (ci, oi) ∈ news) (m4 : (cn, on) ∈ news) (m5 : (cd, od) ∈ news) (m6 : (l, ol) ∈ news)
    (h0 : 0 ≤ a) (h1 : a < b) (h2 : b ≤ (ns.length : Int)) (h3 : b - a < (kk : Int)) : Spec w f' (kk - 1) [.int a ta, .int b tb] news (IntIs news (pieceV n.toNat ns a b)) :=
  Spec.mono (ih (b - a).toNat (by omega) news a b ta tb m1 m2 m3 m4 m5 m6 h0 h1 h2 (by omega)) (by omega)
theorem d2i_call {w : World} {f' : Addr} {fo : Obj} {c' ci cn cd l : Addr} {oc oi on od ol : Obj} {ns : List Int} {n : Int} {kk : Nat} (ih : ∀ j, j < kk → D2I w f' fo c' ci cn cd l oc oi on od ol ns n j)
    {news : List (Addr × Obj)} {x y : Int} {ta tb : Tok}
    {p : Program} {loose : List Str} {mean : ExcName → Option Value} {mg mb : Str → Option Value}
    {dp un : Nat} {gd : Option (List Code)} {cn' : Str} {cs : Scope} {a : Addr} {ccd : Value} {cl : List (Str × Addr)} {outer : List Env} {A₀ : Around} {base h₀ : Heap} {L : Addr} {m : Str → Option Value} {s : Shared} {Q E : Value → Shared → Prop}
    (hk : cs.kind = .function) (B : Below A₀ base outer h₀) (F : Fr h₀ L s.heap m) (X : (hd02.heap_1 w.params).In h₀) (N : News h₀ L s.heap news) (m1 : (f', fo) ∈ news) (m2 : (c', oc) ∈ news) (m3 : (ci, oi) ∈ news) (m4 : (cn, on) ∈ news) (m5 : (cd, od) ∈ news) (m6 : (l, ol) ∈ news) (T : Top p loose mean mg mb h₀)
    (C1 : CodeHd base 72 68) (C2 : CodeHd base 79 75) (hd : dp + (kk - 1) < recursionLimit) (hu : un + 8 * (kk - 1) < cLine)
    (ret : ∀ v news' h' tk', Fr h₀ L h' m → News h₀ L h' news' → IntIs news (pieceV n.toNat ns x y) v news' → Q v { s with heap := h', toks := tk' })
    (h0 : 0 ≤ x ∧ x < y ∧ y ≤ (ns.length : Int) ∧ y - x < (kk : Int)) :
    wpAny (model PySem.Challenge.rw_sw0076_02.row.prog w) (ktrTop dp un gd cn' cs L a ccd cl outer) (call (.ref f') [.int x ta, .int y tb]) Q E s :=
  Spec.use (d2i_rec ih m1 m2 m3 m4 m5 m6 h0.1 h0.2.1 h0.2.2.1 h0.2.2.2) hk B F X N T C1 C2 hd hu ret
theorem d2i_at {w : World} {f' c' ci cn cd l : Addr} {nm qual : Str} {params : Arguments} {body : List Stmt} {scope : Scope} {dc pm ct : Value} {oc oi on od ol : Obj} {ns : List Int} {n : Int} {news : List (Addr × Obj)} {a b : Int} {ta tb tn t : Tok} {vs' : Array Value}
    (m1 : (f', fnMade nm qual params body scope [(Str.ofString "n", cn), (Str.ofString "inner", ci), (Str.ofString "digits", cd)] dc pm c' ct) ∈ news) (m2 : (c', oc) ∈ news) (m3 : (ci, oi) ∈ news) (m4 : (cn, on) ∈ news) (m5 : (cd, od) ∈ news) (m6 : (l, ol) ∈ news)
    (q1 : on.data = .cell (some (.int n tn))) (q2 : oi.data = .cell (some (.ref f'))) (q3 : od.data = .cell (some (.ref l))) (q4 : oc.data = .fields vs') (q5 : vs'[1]? = some (.str qual t))
    (kk : Nat) (h0 : 0 ≤ a) (h1 : a < b) (h2 : b ≤ (ns.length : Int)) (h3 : b - a ≤ (kk : Int))
    (step : on.data = .cell (some (.int n tn)) → oi.data = .cell (some (.ref f')) → od.data = .cell (some (.ref l)) → oc.data = .fields vs' → vs'[1]? = some (.str qual t) →
      ∀ kk, (∀ j, j < kk → D2I w f' (fnMade nm qual params body scope [(Str.ofString "n", cn), (Str.ofString "inner", ci), (Str.ofString "digits", cd)] dc pm c' ct) c' ci cn cd l oc oi on od ol ns n j) →
        D2I w f' (fnMade nm qual params body scope [(Str.ofString "n", cn), (Str.ofString "inner", ci), (Str.ofString "digits", cd)] dc pm c' ct) c' ci cn cd l oc oi on od ol ns n kk) :
    Spec w f' kk [.int a ta, .int b tb] news (IntIs news (pieceV n.toNat ns a b)) := by
  have all : ∀ kk, D2I w f' (fnMade nm qual params body scope [(Str.ofString "n", cn), (Str.ofString "inner", ci), (Str.ofString "digits", cd)] dc pm c' ct) c' ci cn cd l oc oi on od ol ns n kk := by
    intro kk
    induction kk using Nat.strongRecOn with
    | ind kk ih => exact step q1 q2 q3 q4 q5 kk ih
  exact all kk news a b ta tb m1 m2 m3 m4 m5 m6 h0 h1 h2 h3


local macro_rules | `(tactic| walk_at "call ref") => `(tactic| (k_here; (k_dflt (refine' d2i_call (by assumption) (by exact rfl) (by k_asm) (by k_asm) (by k_asm) (by k_asm) (by k_mem) (by k_mem) (by k_mem) (by k_mem) (by k_mem) (by k_mem) (by k_asm) (by assumption) (by assumption) (by ktr_room) (by ktr_units) ?_ ?_)); intro v' news' h' tk' F' N' P'; obtain ⟨t1', e1, e2⟩ := P'; subst e1; subst e2; (try dsimp only); (try k_fold)))

/-- what _digits2int gives over a ledger that bears its digits and its table -/
def D2IP (news : List (Addr × Obj)) (q : Int) (v : Value) (news' : List (Addr × Obj)) : Prop :=
  (∃ t, v = .int q t) ∧ TabIs 83 4 (Str.ofString "_digits2int.<locals>.inner") 75 news news'
theorem d2i_ret {h₀ : Heap} {L : Addr} {m : Str → Option Value} {news all : List (Addr × Obj)} {s : Shared} {Q : Value → Shared → Prop} {q q' : Int}
    (hret : ∀ v news' h' tk', Fr h₀ L h' m → News h₀ L h' news' → D2IP news q v news' → Q v { s with heap := h', toks := tk' })
    {c : Addr} {oc : Obj} {vs : Array Value} {t t' : Tok} {h' : Heap} {tk' : Nat} {ps : Array Value} (F : Fr h₀ L h' m) (N : News h₀ L h' all) (hP : (75, tabObj ps) ∈ all) (hps : ps = #[rawInt 83, rawInt 4, .ref c]) (hc : (c, oc) ∈ all) (hs : ∀ p ∈ news, p ∈ all)
    (d1 : oc.data = .fields vs) (d2 : vs[1]? = some (.str (Str.ofString "_digits2int.<locals>.inner") t')) (hlt : @LT.lt Nat _ 75 c) (hq : q' = q) : Q (.int q' t) { s with heap := h', toks := tk' } := by
  subst hq
  subst hps
  refine hret (.int q' t) ((75, tabObj #[rawInt 83, rawInt 4, .ref c]) :: (c, oc) :: news) h' tk' F (fun p hp => ?_) ⟨⟨t, rfl⟩, c, oc, vs, t', rfl, d1, d2, hlt⟩
  rcases List.mem_cons.mp hp with e | hp
  · exact N p (e ▸ hP)
  · rcases List.mem_cons.mp hp with e | hp
    · exact N p (e ▸ hc)
    · exact N p (hs p hp)

theorem d2i (w : World) (n : Int) (tn : Tok) (l : Addr) (k : Nat) (vs : List Value) (ns : List Int) (hi : IntsAre vs ns) (hlen : ns.length ≤ 100) (hn0 : 0 ≤ n) (hn : n ≤ 20000)
    (hD : ∀ x ∈ ns, Builtin.Int.intBits x ≤ 20000) (ps : Array Value) (news : List (Addr × Obj)) (hm : (l, W.listOf vs.toArray k) ∈ news) (hoff : ∀ p ∈ news, p.1 ≠ 75) (hps : TabSt 83 4 (Str.ofString "_digits2int.<locals>.inner") 75 ps news) :
    Spec w 80 102 [.ref l, .int n tn] ((75, tabObj ps) :: news) (D2IP news (digV n.toNat ns)) := by
  have zz : PySem.Challenge.rw_sw0076_02 = PySem.Challenge.rw_sw0076_02 := rfl
  revert zz
  unfold Spec
  k_fill
  intro zz p loose mean mg mb dp un gd cn cs a' ccd cl outer A₀ base h₀ L m s Q E hk B F X N T C1 C2 hd hu hret
  clear zz
  refine wpAny_call ?_
  k_dflt (refine' code_defC ?k1 ?k2 ?k3 ?k4 ?k5 ?kA ?kF ?kK ?k6 ?k7 ?k8 ?k9 ?kB ?kD ?_ ?c2 ?c3 ?c4; (case kA => exact rfl); (case kF => exact rfl); (case kK => assumption); (case k1 => k_asm); (case k2 => k_asm); (case k3 => k_asm); (case k4 => k_asm); (case k5 => k_asm); (case k6 => k_is); (case k7 => k_is); (case k8 => ktr_room); (case k9 => exact BindsTo.of_eq rfl); (case kB => exact rfl); (case kD => decide +kernel); (case c2 => exact rfl); (case c3 => exact rfl); (case c4 => exact rfl); k_whole; intro g' L' h' tk' cells' FG' F' N' Y' B' X' T' l1; (try k_lt l1); k_cells Y'; (try simp only [List.cons_append, List.nil_append] at N'); (try dsimp only); (try k_lift B'); (try k_fold))
  k_steps
  all_goals first
    | ((refine' Spec.use (d2i_at (ns := ns) (n := n) ?m1 ?m2 ?m3 ?m4 ?m5 ?m6 ?q1 ?q2 ?q3 ?q4 ?q5 100 ?h0 ?h1 ?h2 ?h3 ?step) ?k ?B ?F ?X ?N ?T ?C1 ?C2 ?d ?u ?_)
       (case N => k_asm)
       (case m1 => k_mem)
       (case m2 => k_mem)
       (case m3 => k_mem)
       (case m4 => k_mem)
       (case m5 => k_mem)
       (case q1 => assumption)
       (case q2 => assumption)
       (case q3 => assumption)
       (case m6 => k_mem)
       (case q4 => assumption)
       (case q5 => assumption)
       (case k => exact rfl)
       (case B => k_asm)
       (case F => k_asm)
       (case X => k_asm)
       (case T => k_asm)
       (case C1 => assumption)
       (case C2 => assumption)
       (case d => ktr_room)
       (case u => ktr_units)
       (case h0 => decide)
       (case h1 => omega)
       (case h2 => omega)
       (case h3 => omega)
       (case step =>
         clear hret
         intro z1 z2 z3 z4 z5 kk ih
         unfold D2I Spec
         intro news a b ta tb m1 m2 m3 m4 m5 m6 h0 h1 h2 h3 p loose mean mg mb dp un gd cn cs a' ccd cl outer A₀ base h₀ L m s Q E hk B F X N T C1 C2 hd hu hret
         have e9 := half_is a b
         have hr : ∀ {m : Int}, a ≤ m → m ≤ b → pieceV n.toNat ns m b * 2 ^ ((m - a) * n).toNat + pieceV n.toNat ns a m = pieceV n.toNat ns a b := fun h5 h6 => by
           rw [half_shift hn0 h5]; exact pieceV_split h0 h5 h6 h2
         refine wpAny_call ?_
         k_dflt (refine' code_nest ?k1 ?k2 ?k3 ?k4 ?k5 ?kA ?kF ?kK ?k6 ?k7 ?k8 ?k9 ?kB ?_ ?c2 ?c3 ?c4 ?c5; (case kA => exact rfl); (case kF => exact rfl); (case kK => assumption); (case k1 => k_asm); (case k2 => k_asm); (case k3 => k_asm); (case k4 => k_asm); (case k5 => k_asm); (case k6 => k_mem); (case k7 => exact codeRec_news (by k_asm) (by k_mem) (by assumption) (by assumption)); (case k8 => ktr_room); (case k9 => exact BindsTo.of_eq rfl); (case c5 => decide); (case kB => exact locs rfl); (case c2 => exact rfl); (case c3 => exact rfl); (case c4 => exact rfl); k_whole; intro g' L' h' FG' F' N' B' X' T'; (try dsimp only); (try k_lift B'); (try k_fold))
         k_steps
         all_goals first
           | (rw [e9]; omega)
           | (rw [e9]; exact mulOk_small (by omega) (by omega))
           | (rw [e9]; exact Int.mul_nonneg (by omega) hn0)
           | (rw [e9]; exact half_size hD hlen hn0 hn (Nat.le_refl _) (by omega) (by omega))
           | (rw [e9]; refine int_ret hret (by with_reducible assumption) (by with_reducible assumption) sub_refl (hr (by omega) (by omega)))
           | (refine int_ret hret (by with_reducible assumption) (by with_reducible assumption) sub_refl (pieceV_one h0 (by assumption) h2).symm))
       (intro v' news' h' tk' F' N' P')
       (obtain ⟨t1', e1, e2⟩ := P')
       subst e1
       subst e2
       (try dsimp only)
       (try k_fold)
       k_steps
       (refine' d2i_ret (by with_reducible assumption) ?F ?N ?hP ?hps ?hc ?hs ?d1 ?d2 ?lt ?_; (case F => with_reducible assumption); (case N => with_reducible assumption); (case hP => k_mem); (case hps => first | rfl | (simp; done)); (case hc => k_mem); (case hs => walk_at "SUB"); (case d1 => assumption); (case d2 => assumption); (case lt => assumption))
       exact pieceV_all)
    | ((refine' d2i_ret (by with_reducible assumption) ?F ?N ?hP ?hps ?hc ?hs ?d1 ?d2 ?lt ?_; (case F => with_reducible assumption); (case N => with_reducible assumption); (case hP => k_mem); (case hps => first | rfl | (simp; done)); (case hc => k_mem); (case hs => walk_at "SUB"); (case d1 => assumption); (case d2 => assumption); (case lt => assumption))
       have e0 : ns = [] := List.eq_nil_of_length_eq_zero (by omega)
       subst e0
       rfl)
end
section
-- I2D
set_option maxHeartbeats 8000000



inductive Pull (e : Addr × Obj) : List (Addr × Obj) → List (Addr × Obj) → Prop
  | head {r} : Pull e (e :: r) r
  | tail {p r r'} : Pull e r r' → Pull e (p :: r) (p :: r')
theorem Pull.news {e : Addr × Obj} {l r : List (Addr × Obj)} {h₀ h : Heap} {L : Addr} (P : Pull e l r) (N : News h₀ L h l) : News h₀ L h (e :: r) := by
  induction P with
  | head => exact N
  | tail _ ih =>
    have h2 := ih fun q hq => N q (.tail _ hq)
    intro q hq
    rcases List.mem_cons.mp hq with e1 | hq
    · exact h2 q (e1 ▸ .head _)
    · rcases List.mem_cons.mp hq with e1 | hq
      · exact N q (e1 ▸ .head _)
      · exact h2 q (.tail _ hq)
theorem Pull.news' {e : Addr × Obj} {l r : List (Addr × Obj)} {h₀ h : Heap} {L : Addr} (N : News h₀ L h l) (P : Pull e l r) : News h₀ L h (e :: r) := P.news N
local macro_rules | `(tactic| walk_at "PULL") => `(tactic| first | exact Pull.head | (apply Pull.tail; walk_at "PULL"))

/-- the inner closure: None, and the list with its digits -/
def I2DIP (l : Addr) (news : List (Addr × Obj)) (ys : List Int) (v : Value) (news' : List (Addr × Obj)) : Prop :=
  v = .none ∧ ∃ (vs' : List Value) (k' : Nat), news' = (l, W.listOf vs'.toArray k') :: news ∧ IntsAre vs' ys
def I2DI (w : World) (f' : Addr) (fo : Obj) (c' ci cn cd l : Addr) (oc oi on od : Obj) (n : Int) (kk : Nat) : Prop :=
  ∀ (news : List (Addr × Obj)) (vs : List Value) (k : Nat) (xs : List Int) (x a b : Int) (tx ta tb : Tok), (f', fo) ∈ news → (c', oc) ∈ news → (ci, oi) ∈ news → (cn, on) ∈ news → (cd, od) ∈ news → (∀ p ∈ news, p.1 ≠ l) →
    IntsAre vs xs → xs.length ≤ 100 → 0 ≤ a → a < b → b ≤ (xs.length : Int) → b - a ≤ (kk : Int) → 0 ≤ x → x < 2 ^ (n.toNat * (b - a).toNat) →
    Spec w f' kk [.int x tx, .int a ta, .int b tb] ((l, W.listOf vs.toArray k) :: news) (I2DIP l news (putDigs n.toNat xs x a b))
theorem i2d_call {w : World} {f' : Addr} {fo : Obj} {c' ci cn cd l : Addr} {oc oi on od : Obj} {n : Int} {kk : Nat} (ih : ∀ j, j < kk → I2DI w f' fo c' ci cn cd l oc oi on od n j)
    {news : List (Addr × Obj)} {vs : List Value} {k : Nat} {xs : List Int} {z x y : Int} {tz ta tb : Tok}
    {p : Program} {loose : List Str} {mean : ExcName → Option Value} {mg mb : Str → Option Value}
    {dp un : Nat} {gd : Option (List Code)} {cn' : Str} {cs : Scope} {a : Addr} {ccd : Value} {cl : List (Str × Addr)} {outer : List Env} {A₀ : Around} {base h₀ : Heap} {L : Addr} {m : Str → Option Value} {s : Shared} {Q E : Value → Shared → Prop}
    (hk : cs.kind = .function) (B : Below A₀ base outer h₀) (F : Fr h₀ L s.heap m) (X : (hd02.heap_1 w.params).In h₀) (N : News h₀ L s.heap ((l, W.listOf vs.toArray k) :: news)) (m1 : (f', fo) ∈ news) (m2 : (c', oc) ∈ news) (m3 : (ci, oi) ∈ news) (m4 : (cn, on) ∈ news) (m5 : (cd, od) ∈ news) (m6 : ∀ p ∈ news, p.1 ≠ l) (hi : IntsAre vs xs) (T : Top p loose mean mg mb h₀)
    (C1 : CodeHd base 72 68) (C2 : CodeHd base 79 75) (hd : dp + (kk - 1) < recursionLimit) (hu : un + 8 * (kk - 1) < cLine)
    (ret : ∀ v news' h' tk', Fr h₀ L h' m → News h₀ L h' news' → I2DIP l news (putDigs n.toNat xs z x y) v news' → Q v { s with heap := h', toks := tk' })
    (h0 : 0 ≤ x ∧ x < y ∧ y ≤ (xs.length : Int) ∧ y - x < (kk : Int)) (h1 : xs.length ≤ 100) (h2 : 0 ≤ z ∧ z < 2 ^ (n.toNat * (y - x).toNat)) :
    wpAny (model PySem.Challenge.rw_sw0076_02.row.prog w) (ktrTop dp un gd cn' cs L a ccd cl outer) (call (.ref f') [.int z tz, .int x ta, .int y tb]) Q E s :=
  Spec.use (Spec.mono (ih (y - x).toNat (by omega) news vs k xs z x y tz ta tb m1 m2 m3 m4 m5 m6 hi h1 h0.1 h0.2.1 h0.2.2.1 (by omega) h2.1 h2.2) (by omega)) hk B F X N T C1 C2 hd hu ret
theorem i2d_at {w : World} {f' c' ci cn cd l : Addr} {nm qual : Str} {params : Arguments} {body : List Stmt} {scope : Scope} {dc pm ct : Value} {oc oi on od : Obj} {n : Int} {news : List (Addr × Obj)} {vs : List Value} {k : Nat} {xs : List Int} {x a b : Int} {tx ta tb tn t : Tok} {vs' : Array Value}
    (m1 : (f', fnMade nm qual params body scope [(Str.ofString "n", cn), (Str.ofString "inner", ci), (Str.ofString "a_digits", cd)] dc pm c' ct) ∈ news) (m2 : (c', oc) ∈ news) (m3 : (ci, oi) ∈ news) (m4 : (cn, on) ∈ news) (m5 : (cd, od) ∈ news) (m6 : ∀ p ∈ news, p.1 ≠ l)
    (q1 : on.data = .cell (some (.int n tn))) (q2 : oi.data = .cell (some (.ref f'))) (q3 : od.data = .cell (some (.ref l))) (q4 : oc.data = .fields vs') (q5 : vs'[1]? = some (.str qual t))
    (hi : IntsAre vs xs) (kk : Nat) (hl : xs.length ≤ 100) (h0 : 0 ≤ a) (h1 : a < b) (h2 : b ≤ (xs.length : Int)) (h3 : b - a ≤ (kk : Int)) (h4 : 0 ≤ x) (h5 : x < 2 ^ (n.toNat * (b - a).toNat))
    (step : on.data = .cell (some (.int n tn)) → oi.data = .cell (some (.ref f')) → od.data = .cell (some (.ref l)) → oc.data = .fields vs' → vs'[1]? = some (.str qual t) →
      ∀ kk, (∀ j, j < kk → I2DI w f' (fnMade nm qual params body scope [(Str.ofString "n", cn), (Str.ofString "inner", ci), (Str.ofString "a_digits", cd)] dc pm c' ct) c' ci cn cd l oc oi on od n j) →
        I2DI w f' (fnMade nm qual params body scope [(Str.ofString "n", cn), (Str.ofString "inner", ci), (Str.ofString "a_digits", cd)] dc pm c' ct) c' ci cn cd l oc oi on od n kk) :
    Spec w f' kk [.int x tx, .int a ta, .int b tb] ((l, W.listOf vs.toArray k) :: news) (I2DIP l news (putDigs n.toNat xs x a b)) := by
  have all : ∀ kk, I2DI w f' (fnMade nm qual params body scope [(Str.ofString "n", cn), (Str.ofString "inner", ci), (Str.ofString "a_digits", cd)] dc pm c' ct) c' ci cn cd l oc oi on od n kk := by
    intro kk
    induction kk using Nat.strongRecOn with
    | ind kk ih => exact step q1 q2 q3 q4 q5 kk ih
  exact all kk news vs k xs x a b tx ta tb m1 m2 m3 m4 m5 m6 hi hl h0 h1 h2 h3 h4 h5

local macro_rules | `(tactic| walk_at "binaryOp RShift int int") => `(tactic| (k_here; (with_reducible refine rshift_int ?_ ?_)))
local macro_rules | `(tactic| walk_at "call ref") => `(tactic| (k_here; (k_dflt (refine' i2d_call (by assumption) (by exact rfl) (by k_asm) (by k_asm) (by k_asm) (by k_asm) (by k_mem) (by k_mem) (by k_mem) (by k_mem) (by k_mem) (by k_all) (by with_reducible assumption) (by k_asm) (by assumption) (by assumption) (by ktr_room) (by ktr_units) ?_ ?_ ?_ ?_)); intro v' news' h' tk' F' N' P'; obtain ⟨e0, vs', k', e1, i1⟩ := P'; subst e0; subst e1; (try dsimp only); (try k_fold)))

theorem i2di_ret {h₀ : Heap} {L l : Addr} {m : Str → Option Value} {news : List (Addr × Obj)} {s : Shared} {Q : Value → Shared → Prop} {ys ys' : List Int}
    (hret : ∀ v news' h' tk', Fr h₀ L h' m → News h₀ L h' news' → I2DIP l news ys v news' → Q v { s with heap := h', toks := tk' })
    {h' : Heap} {tk' : Nat} {vs' : List Value} {k' : Nat} (F : Fr h₀ L h' m) (N : News h₀ L h' ((l, W.listOf vs'.toArray k') :: news)) (hi : IntsAre vs' ys') (hy : ys' = ys) : Q .none { s with heap := h', toks := tk' } := by
  subst hy
  exact hret .none _ h' tk' F N ⟨rfl, vs', k', rfl, hi⟩
/-- what _int2digits gives: a new list, and its table -/
def I2DP (news : List (Addr × Obj)) (ds : List Int) (v : Value) (news' : List (Addr × Obj)) : Prop :=
  ∃ (l : Addr) (vs' : List Value) (k' : Nat), v = .ref l ∧ TabIs 68 4 (Str.ofString "_int2digits.<locals>.inner") 68 ((l, W.listOf vs'.toArray k') :: news) news' ∧ IntsAre vs' ds ∧ @LT.lt Nat _ 75 l ∧ ∀ p ∈ news, p.1 < l
theorem i2d_ret {h₀ : Heap} {L l : Addr} {m : Str → Option Value} {news all : List (Addr × Obj)} {s : Shared} {Q : Value → Shared → Prop} {ds ds' : List Int}
    (hret : ∀ v news' h' tk', Fr h₀ L h' m → News h₀ L h' news' → I2DP news ds v news' → Q v { s with heap := h', toks := tk' })
    {c : Addr} {oc : Obj} {vs : Array Value} {vs' : List Value} {t' : Tok} {h' : Heap} {tk' k' : Nat} {ps : Array Value} (F : Fr h₀ L h' m) (N : News h₀ L h' all) (hl : (l, W.listOf vs'.toArray k') ∈ all) (hP : (68, tabObj ps) ∈ all) (hps : ps = #[rawInt 68, rawInt 4, .ref c]) (hc : (c, oc) ∈ all) (hs : ∀ p ∈ news, p ∈ all)
    (d1 : oc.data = .fields vs) (d2 : vs[1]? = some (.str (Str.ofString "_int2digits.<locals>.inner") t')) (hlt : @LT.lt Nat _ 75 c) (hlt2 : @LT.lt Nat _ 75 l) (hlt3 : ∀ p ∈ news, p.1 < l) (hi : IntsAre vs' ds') (hq : ds' = ds) : Q (.ref l) { s with heap := h', toks := tk' } := by
  subst hq
  subst hps
  refine hret (.ref l) ((68, tabObj #[rawInt 68, rawInt 4, .ref c]) :: (c, oc) :: (l, W.listOf vs'.toArray k') :: news) h' tk' F (fun p hp => ?_) ⟨l, vs', k', rfl, ⟨c, oc, vs, t', rfl, d1, d2, hlt⟩, hi, hlt2, hlt3⟩
  rcases List.mem_cons.mp hp with e | hp
  · exact N p (e ▸ hP)
  · rcases List.mem_cons.mp hp with e | hp
    · exact N p (e ▸ hc)
    · rcases List.mem_cons.mp hp with e | hp
      · exact N p (e ▸ hl)
      · exact N p (hs p hp)

theorem i2d (w : World) (a n : Int) (ta tn : Tok) (ha : 0 ≤ a) (hn1 : 1 ≤ n) (hn : n ≤ 20000) (hb : (Builtin.Int.intBits a : Int) ≤ 100 * n)
    (ps : Array Value) (news : List (Addr × Obj)) (hoff : ∀ p ∈ news, p.1 ≠ 68) (oD : Obj) (hPD : (75, oD) ∈ news) (hps : TabSt 68 4 (Str.ofString "_int2digits.<locals>.inner") 68 ps news) :
    Spec w 73 102 [.int a ta, .int n tn] ((68, tabObj ps) :: news) (I2DP news (digs n.toNat a (((Builtin.Int.intBits a : Int) + n - 1).fdiv n).toNat)) := by
  have zz : PySem.Challenge.rw_sw0076_02 = PySem.Challenge.rw_sw0076_02 := rfl
  revert zz
  unfold Spec
  k_fill
  intro zz p loose mean mg mb dp un gd cn cs a' ccd cl outer A₀ base h₀ L m s Q E hk B F X N T C1 C2 hd hu hret
  clear zz
  obtain ⟨hk9a, hk9b, hk7, hk8', hk6⟩ := count_digs (B := (Builtin.Int.intBits a : Int)) (by omega) hn1 hb
  have hk8 : a ≠ 0 → 1 ≤ ((Builtin.Int.intBits a : Int) + n - 1).fdiv n := fun h => hk8' (by have := bits_pos h; omega)
  refine wpAny_call ?_
  k_dflt (refine' code_defC ?k1 ?k2 ?k3 ?k4 ?k5 ?kA ?kF ?kK ?k6 ?k7 ?k8 ?k9 ?kB ?kD ?_ ?c2 ?c3 ?c4; (case kA => exact rfl); (case kF => exact rfl); (case kK => assumption); (case k1 => k_asm); (case k2 => k_asm); (case k3 => k_asm); (case k4 => k_asm); (case k5 => k_asm); (case k6 => k_is); (case k7 => k_is); (case k8 => ktr_room); (case k9 => exact BindsTo.of_eq rfl); (case kB => exact rfl); (case kD => decide +kernel); (case c2 => exact rfl); (case c3 => exact rfl); (case c4 => exact rfl); k_whole; intro g' L' h' tk' cells' FG' F' N' Y' B' X' T' l1; (try k_lt l1); k_cells Y'; (try simp only [List.cons_append, List.nil_append] at N'); (try dsimp only); (try k_lift B'); (try k_fold))
  have hPL : @LT.lt Nat _ 75 _ := allLt_all (l := news) (by with_reducible assumption) _ hPD
  k_steps
  · (refine' Spec.use (i2d_at (n := n) ?m1 ?m2 ?m3 ?m4 ?m5 ?m6 ?q1 ?q2 ?q3 ?q4 ?q5 ?hi 100 ?hl ?h0 ?h1 ?h2 ?h3 ?h4 ?h5 ?step) ?k ?B ?F ?X ?N ?T ?C1 ?C2 ?d ?u ?_)
    (case N => exact Pull.news' (by k_asm) (by walk_at "PULL"))
    (case m1 => k_mem)
    (case m2 => k_mem)
    (case m3 => k_mem)
    (case m4 => k_mem)
    (case m5 => k_mem)
    (case m6 => k_all)
    (case q1 => assumption)
    (case q2 => assumption)
    (case q3 => assumption)
    (case q4 => assumption)
    (case q5 => assumption)
    (case hi => with_reducible assumption)
    (case k => exact rfl)
    (case B => k_asm)
    (case F => k_asm)
    (case X => k_asm)
    (case T => k_asm)
    (case C1 => assumption)
    (case C2 => assumption)
    (case d => ktr_room)
    (case u => ktr_units)
    (case step =>
       clear hret
       intro z1 z2 z3 z4 z5 kk ih
       unfold I2DI Spec
       intro news vs k xs x a b tx ta tb m1 m2 m3 m4 m5 hoff hi hl h0 h1 h2 h3 h4 h5 p loose mean mg mb dp un gd cn cs a' ccd cl outer A₀ base h₀ L m s Q E hk B F X N T C1 C2 hd hu hret
       have e9 := half_is a b
       refine wpAny_call ?_
       k_dflt (refine' code_nest ?k1 ?k2 ?k3 ?k4 ?k5 ?kA ?kF ?kK ?k6 ?k7 ?k8 ?k9 ?kB ?_ ?c2 ?c3 ?c4 ?c5; (case kA => exact rfl); (case kF => exact rfl); (case kK => assumption); (case k1 => k_asm); (case k2 => k_asm); (case k3 => k_asm); (case k4 => k_asm); (case k5 => k_asm); (case k6 => k_mem); (case k7 => exact codeRec_news (by k_asm) (by k_mem) (by assumption) (by assumption)); (case k8 => ktr_room); (case k9 => exact BindsTo.of_eq rfl); (case c5 => decide); (case kB => exact locs rfl); (case c2 => exact rfl); (case c3 => exact rfl); (case c4 => exact rfl); k_whole; intro g' L' h' FG' F' N' B' X' T'; (try dsimp only); (try k_lift B'); (try k_fold))
       have hn0 : 0 ≤ n := by omega
       have e8 : ∀ {m : Int}, a ≤ m → ((m - a) * n).toNat = n.toNat * (m - a).toNat := fun h => half_shift hn0 h
       have e7 := e8 (m := (a + b) / 2) (by omega)
       k_steps
       all_goals first
         | (rw [e9]; omega)
         | (rw [e9]; exact mulOk_small (by omega) (by omega))
         | (rw [e9]; exact Int.mul_nonneg (by omega) hn0)
         | (rw [e9]; exact st_size (b := b) hn0 hn h4 h5 (by omega) (by omega))
         | (rw [putDigs_length (by omega) (by omega) (by omega)]; omega)
         | exact Int.fdiv_nonneg h4 (Int.le_of_lt (pow_pos2 _))
         | (rw [e9, e7]; exact st_lt (by omega) (by omega) h5)
         | (rw [xor_high]; exact (kbt_rest x _).1)
         | (rw [xor_high, e9, e7]; exact (kbt_rest x _).2)
         | (refine i2di_ret hret (by with_reducible assumption) (by with_reducible assumption) (by with_reducible assumption) (putDigs_one h0 (by assumption) h2 h4 ?_).symm; (have e6 : (b - a).toNat = 1 := by omega); rw [e6, Nat.mul_one] at h5; exact h5)
         | (refine i2di_ret hret (by with_reducible assumption) (by with_reducible assumption) (by with_reducible assumption) ?_; rw [xor_high, e9, e7]; exact putDigs_split h0 (by omega) (by omega) h2))
    (case hl => rw [flat_one]; omega)
    (case h0 => decide)
    (case h1 => have := hk8 (by assumption); omega)
    (case h2 => rw [flat_one]; omega)
    (case h3 => omega)
    (case h4 => exact ha)
    (case h5 => exact lt_digs (by omega) hk7 (by omega))
    (intro v' news' h' tk' F' N' P')
    (obtain ⟨e0, vs', k', e1, i1⟩ := P')
    subst e0
    subst e1
    (try dsimp only)
    (try k_fold)
    k_steps
    (refine' i2d_ret (by with_reducible assumption) ?F ?N ?hl ?hP ?hps ?hc ?hs ?d1 ?d2 ?lt ?lt2 ?lt3 ?hi ?_; (case F => with_reducible assumption); (case N => with_reducible assumption); (case hl => k_mem); (case hP => k_mem); (case hps => first | rfl | (simp; done)); (case hc => k_mem); (case hs => walk_at "SUB"); (case d1 => assumption); (case d2 => assumption); (case lt => assumption); (case lt2 => omega); (case lt3 => exact allLt_all (by with_reducible assumption)); (case hi => with_reducible assumption))
    exact putDigs_flat (by assumption)
  · (refine' i2d_ret (by with_reducible assumption) ?F ?N ?hl ?hP ?hps ?hc ?hs ?d1 ?d2 ?lt ?lt2 ?lt3 ?hi ?_; (case F => with_reducible assumption); (case N => with_reducible assumption); (case hl => k_mem); (case hP => k_mem); (case hps => first | rfl | (simp; done)); (case hc => k_mem); (case hs => walk_at "SUB"); (case d1 => assumption); (case d2 => assumption); (case lt => assumption); (case lt2 => omega); (case lt3 => exact allLt_all (by with_reducible assumption)); (case hi => with_reducible assumption))
    exact flat_none (by omega) hk6
end
end
section
-- Dmp
set_option maxHeartbeats 4000000

/-- _div2n1n, for a divisor of n bits -/
theorem div2 (w : World) (a b n : Int) (ta tb tn : Tok) (hn0 : 0 ≤ n) (hn : n ≤ 4000) (ha : 0 ≤ a) (hb : 0 < b) (hbn : b < 2 ^ n.toNat) (hab : a < b * 2 ^ n.toNat) (news : List (Addr × Obj)) :
    Spec w 59 4 [.int a ta, .int b tb, .int n tn] news (Pair news (a.fdiv b) (a.fmod b)) := by
  have hp := pow_pos2 n.toNat
  have h1 : a < 2 ^ (n.toNat + n.toNat) := by
    rw [pow_add2]
    exact Int.lt_of_lt_of_le hab (Int.mul_le_mul_of_nonneg_right (Int.le_of_lt hbn) (Int.le_of_lt hp))
  have h2 := bits_lt ha h1
  have h3 := bits_lt (Int.le_of_lt hb) hbn
  exact Spec.mono (div2_0 w a b n ta tb tn (by omega) (noPy (by omega)) (by omega) news) (by decide)

local macro_rules | `(tactic| walk_at "PULL") => `(tactic| first | exact Pull.head | (apply Pull.tail; walk_at "PULL"))

/-- both tables hold their inner codes, behind a call -/
def Tabs2 (news news' : List (Addr × Obj)) : Prop :=
  ∃ (cI : Addr) (oI : Obj) (vI : Array Value) (tI : Tok) (cD : Addr) (oD : Obj) (vD : Array Value) (tD : Tok),
    news' = (68, tabObj #[rawInt 68, rawInt 4, .ref cI]) :: (75, tabObj #[rawInt 83, rawInt 4, .ref cD]) :: (cI, oI) :: (cD, oD) :: news ∧
    oI.data = .fields vI ∧ vI[1]? = some (.str (Str.ofString "_int2digits.<locals>.inner") tI) ∧ oD.data = .fields vD ∧ vD[1]? = some (.str (Str.ofString "_digits2int.<locals>.inner") tD) ∧ @LT.lt Nat _ 75 cI ∧ @LT.lt Nat _ 75 cD
/-- what both tables may be ahead of a call -/
def St2 (psI psD : Array Value) (news : List (Addr × Obj)) : Prop :=
  TabSt 68 4 (Str.ofString "_int2digits.<locals>.inner") 68 psI news ∧ TabSt 83 4 (Str.ofString "_digits2int.<locals>.inner") 75 psD news ∧ ∀ p ∈ news, @LT.lt Nat _ 75 p.1
def PairT (news : List (Addr × Obj)) (q r : Int) (v : Value) (news' : List (Addr × Obj)) : Prop :=
  ∃ (x : Addr) (t1 t2 : Tok), v = .ref x ∧ Tabs2 ((x, { cls := .type "tuple", data := .seq #[.int q t1, .int r t2] }) :: news) news' ∧ @LT.lt Nat _ 75 x ∧ ∀ p ∈ news, p.1 < x
theorem TabSt.cons {line col : Int} {qual : Str} {P : Addr} {ps : Array Value} {news : List (Addr × Obj)} {e : Addr × Obj} (h : TabSt line col qual P ps news) : TabSt line col qual P ps (e :: news) := by
  rcases h with h | ⟨c, oc, vs, t, h1, h2, h3⟩
  · exact .inl h
  · exact .inr ⟨c, oc, vs, t, h1, .tail _ h2, h3⟩

local macro_rules | `(tactic| walk_at "pyIter ref") => `(tactic| ((with_reducible show wpAny _ _ (pyIter (Value.ref _)) (fun it s₂ => LoopAtV _ _ _ _ _ _ _ _ _ it s₂) _ _); refine LoopHere.out ?_))
theorem i2d_use {w : World} {x n : Int} {ta tn : Tok} {ps : Array Value} {news : List (Addr × Obj)}
    {p : Program} {loose : List Str} {mean : ExcName → Option Value} {mg mb : Str → Option Value}
    {dp un : Nat} {gd : Option (List Code)} {cn : Str} {cs : Scope} {a : Addr} {ccd : Value} {cl : List (Str × Addr)} {outer : List Env} {A₀ : Around} {base h₀ : Heap} {L : Addr} {m : Str → Option Value} {s : Shared} {Q E : Value → Shared → Prop}
    (hk : cs.kind = .function) (B : Below A₀ base outer h₀) (F : Fr h₀ L s.heap m) (X : (hd02.heap_1 w.params).In h₀) (N : News h₀ L s.heap ((68, tabObj ps) :: news)) (T : Top p loose mean mg mb h₀)
    (C1 : CodeHd base 72 68) (C2 : CodeHd base 79 75) (hd : dp + 102 < recursionLimit) (hu : un + 8 * 102 < cLine)
    (hoff : ∀ p ∈ news, p.1 ≠ 68) {oD : Obj} (hPD : (75, oD) ∈ news) (hps : TabSt 68 4 (Str.ofString "_int2digits.<locals>.inner") 68 ps news)
    (ret : ∀ v news' h' tk', Fr h₀ L h' m → News h₀ L h' news' → I2DP news (digs n.toNat x (((Builtin.Int.intBits x : Int) + n - 1).fdiv n).toNat) v news' → Q v { s with heap := h', toks := tk' })
    (ha : 0 ≤ x ∧ 1 ≤ n ∧ n ≤ 20000 ∧ (Builtin.Int.intBits x : Int) ≤ 100 * n) :
    wpAny (model PySem.Challenge.rw_sw0076_02.row.prog w) (ktrTop dp un gd cn cs L a ccd cl outer) (call (.ref 73) [.int x ta, .int n tn]) Q E s :=
  Spec.use (i2d w x n ta tn ha.1 ha.2.1 ha.2.2.1 ha.2.2.2 ps news hoff oD hPD hps) hk B F X N T C1 C2 hd hu ret
local macro_rules | `(tactic| walk_at "call ref") => `(tactic| (k_here; (with_reducible show wpAny _ _ (call (Value.ref 73) _) _ _ _); (k_dflt (refine' i2d_use (by exact rfl) (by k_asm) (by k_asm) (by k_asm) (by k_asm) (by k_asm) (by assumption) (by assumption) (by ktr_room) (by ktr_units) (by assumption) (by k_mem) (by assumption) ?_ ?_)); intro v' news' h' tk' F' N' P'; obtain ⟨l', vs', k', e1, ⟨c', oc', vc', t', e2, d1, d2, l2⟩, i1, l3, l1⟩ := P'; subst e1; subst e2; (try k_lt l1); (try dsimp only); (try k_fold)))

theorem div2_use {w : World} {x y n : Int} {ta tb tn : Tok} {news : List (Addr × Obj)}
    {p : Program} {loose : List Str} {mean : ExcName → Option Value} {mg mb : Str → Option Value}
    {dp un : Nat} {gd : Option (List Code)} {cn : Str} {cs : Scope} {a : Addr} {ccd : Value} {cl : List (Str × Addr)} {outer : List Env} {A₀ : Around} {base h₀ : Heap} {L : Addr} {m : Str → Option Value} {s : Shared} {Q E : Value → Shared → Prop}
    (hk : cs.kind = .function) (B : Below A₀ base outer h₀) (F : Fr h₀ L s.heap m) (X : (hd02.heap_1 w.params).In h₀) (N : News h₀ L s.heap news) (T : Top p loose mean mg mb h₀)
    (C1 : CodeHd base 72 68) (C2 : CodeHd base 79 75) (hd : dp + 4 < recursionLimit) (hu : un + 8 * 4 < cLine)
    (ret : ∀ v news' h' tk', Fr h₀ L h' m → News h₀ L h' news' → Pair news (x.fdiv y) (x.fmod y) v news' → Q v { s with heap := h', toks := tk' })
    (hc : (0 ≤ n ∧ n ≤ 4000) ∧ (0 ≤ x ∧ 0 < y) ∧ y < 2 ^ n.toNat ∧ x < y * 2 ^ n.toNat) :
    wpAny (model PySem.Challenge.rw_sw0076_02.row.prog w) (ktrTop dp un gd cn cs L a ccd cl outer) (call (.ref 59) [.int x ta, .int y tb, .int n tn]) Q E s :=
  Spec.use (div2 w x y n ta tb tn hc.1.1 hc.1.2 hc.2.1.1 hc.2.1.2 hc.2.2.1 hc.2.2.2 news) hk B F X N T C1 C2 hd hu ret
theorem d2i_use {w : World} {n : Int} {tn : Tok} {l : Addr} {k : Nat} {vs : List Value} {ns : List Int} {ps : Array Value} {news : List (Addr × Obj)}
    {p : Program} {loose : List Str} {mean : ExcName → Option Value} {mg mb : Str → Option Value}
    {dp un : Nat} {gd : Option (List Code)} {cn : Str} {cs : Scope} {a : Addr} {ccd : Value} {cl : List (Str × Addr)} {outer : List Env} {A₀ : Around} {base h₀ : Heap} {L : Addr} {m : Str → Option Value} {s : Shared} {Q E : Value → Shared → Prop}
    (hk : cs.kind = .function) (B : Below A₀ base outer h₀) (F : Fr h₀ L s.heap m) (X : (hd02.heap_1 w.params).In h₀) (N : News h₀ L s.heap ((75, tabObj ps) :: news)) (T : Top p loose mean mg mb h₀)
    (C1 : CodeHd base 72 68) (C2 : CodeHd base 79 75) (hd : dp + 102 < recursionLimit) (hu : un + 8 * 102 < cLine)
    (hm : (l, W.listOf vs.toArray k) ∈ news) (hi : IntsAre vs ns) (hoff : ∀ p ∈ news, p.1 ≠ 75) (hps : TabSt 83 4 (Str.ofString "_digits2int.<locals>.inner") 75 ps news)
    (ret : ∀ v news' h' tk', Fr h₀ L h' m → News h₀ L h' news' → D2IP news (digV n.toNat ns) v news' → Q v { s with heap := h', toks := tk' })
    (hc : ns.length ≤ 100 ∧ 0 ≤ n ∧ n ≤ 20000 ∧ ∀ x ∈ ns, Builtin.Int.intBits x ≤ 20000) :
    wpAny (model PySem.Challenge.rw_sw0076_02.row.prog w) (ktrTop dp un gd cn cs L a ccd cl outer) (call (.ref 80) [.ref l, .int n tn]) Q E s :=
  Spec.use (d2i w n tn l k vs ns hi hc.1 hc.2.1 hc.2.2.1 hc.2.2.2 ps news hm hoff hps) hk B F X N T C1 C2 hd hu ret
local macro_rules | `(tactic| walk_at "call ref") => `(tactic| (k_here; (with_reducible show wpAny _ _ (call (Value.ref 59) _) _ _ _); (k_dflt (refine' div2_use (by exact rfl) (by k_asm) (by k_asm) (by k_asm) (by k_asm) (by k_asm) (by assumption) (by assumption) (by ktr_room) (by ktr_units) ?_ ?_)); intro v' news' h' tk' F' N' P'; obtain ⟨x', t1', t2', e1, e2, l1⟩ := P'; subst e1; subst e2; (try k_lt l1); (try dsimp only); (try k_fold)))
local macro_rules | `(tactic| walk_at "call ref") => `(tactic| (k_here; (with_reducible show wpAny _ _ (call (Value.ref 80) _) _ _ _); (k_dflt (refine' d2i_use (by exact rfl) (by k_asm) (by k_asm) (by k_asm) (by exact Pull.news' (by k_asm) (by walk_at "PULL")) (by k_asm) (by assumption) (by assumption) (by ktr_room) (by ktr_units) (by k_mem) (by with_reducible assumption) (by k_all) (by walk_at "TABST") ?_ ?_)); intro v' news' h' tk' F' N' P'; obtain ⟨⟨t', e1⟩, c', oc', vc', tc', e2, d1, d2, l2⟩ := P'; subst e1; subst e2; (try dsimp only); (try k_fold)))
local macro_rules | `(tactic| walk_at "TABST") => `(tactic| first | (with_reducible assumption) | (refine TabSt.cons ?_; walk_at "TABST"))

local macro_rules | `(tactic| walk_at "binaryOp LShift int int") => `(tactic| (k_here; (with_reducible refine lshift_int ?kbn ?_ ?_); (case kbn => first | with_reducible assumption | omega)))
local macro_rules | `(tactic| walk_at "call builtin:list.reverse") => `(tactic| (k_here; (k_dflt (refine' reverse_L (by k_asm) (by k_asm) (by k_upd) ?_ ?_; k_whole)); intro h' F' N'; (have i9 := IntsAre.reverse (by with_reducible assumption)); (try k_sweep)))

def DmpInv (n : Nat) (b : Int) (ds : List Int) (i : Nat) (c : (List Value × Nat) × (Str → Option Value)) : Prop :=
  ∃ (qd : List Int) (r : Int) (tr : Tok), c.2 (Str.ofString "r") = some (.int r tr) ∧ IntsAre c.1.1 qd ∧ qd.length = i ∧ (∀ z ∈ qd, 0 ≤ z ∧ z < 2 ^ n) ∧ 0 ≤ r ∧ r < b ∧ digV n (ds.drop (ds.length - i)) = digV n qd.reverse * b + r
abbrev dmpLed (lq : Addr) (c : List Value × Nat) : List (Addr × Obj) := [(lq, W.listOf c.1.toArray c.2)]
theorem dmp_loop {prog : Program} {w : World} {A : Around} {E : Value → Shared → Prop} {s : Shared} {env : Env} {h₀ : Heap} {body : List Stmt} {Q : Flow → Shared → Prop}
    {I la lq : Addr} {vs : List Value} {ds : List Int} {k : Int} {k2 : Nat} {m : Str → Option Value} {rest : List (Addr × Obj)} {n : Nat} {b : Int} {t0 : Tok} (hh : A.handled = none) (hi : IntsAre vs ds)
    (F : Fr h₀ env.locals s.heap m) (N : News h₀ env.locals s.heap ((I, revObj la k) :: (lq, W.listOf #[] 0) :: rest)) (hla : (la, W.listOf vs.toArray k2) ∈ rest) (hk : k = (vs.length : Int) - 1)
    (o1 : ∀ p ∈ rest, p.1 ≠ I) (o2 : ∀ p ∈ rest, p.1 ≠ lq) (o3 : @LT.lt Nat _ lq I) (hr : m (Str.ofString "r") = some (.int 0 t0)) (hb : 0 < b) (hd : ∀ d ∈ ds, 0 ≤ d ∧ d < 2 ^ n)
    (turn : ∀ i d td qs k qd r tr qv h tk tl, d ∈ ds → i < ds.length → 0 ≤ r * 2 ^ n + d → r * 2 ^ n + d < b * 2 ^ n → 0 ≤ r → r < b → IntsAre qs qd → qd.length = i → (∀ p ∈ tl, p.1 ≠ lq) → (∀ p ∈ rest, p ∈ tl) →
      (∀ qs' t1 t2 m₂, IntsAre qs' (qd ++ [(r * 2 ^ n + d).fdiv b]) → m₂ (Str.ofString "r") = some (.int ((r * 2 ^ n + d).fmod b) t1) → DmpInv n b ds (i + 1) ((qs', t2), m₂)) →
      Fr h₀ env.locals h (fun y => if y = Str.ofString "a_digit" then some (.int d td) else if y = Str.ofString "r" then some (.int r tr) else if y = Str.ofString "q_digit" then qv else m y) → News h₀ env.locals h ((lq, W.listOf qs.toArray k) :: tl) →
      wpAny (model prog w) A (execs body env) (Turn h₀ env.locals (Str.ofString "a_digit") { s with heap := h, toks := tk } (fun c => dmpLed lq c.1) (MpOf [Str.ofString "r", Str.ofString "q_digit"] m) tl (DmpInv n b ds (i + 1)) Q) E { s with heap := h, toks := tk })
    (done : ∀ qs k qd r tr qv u h tk, IntsAre qs qd → qd.length = ds.length → (∀ z ∈ qd, 0 ≤ z ∧ z < 2 ^ n) → 0 ≤ r → r < b → digV n ds = digV n qd.reverse * b + r →
      Fr h₀ env.locals h (fun y => if y = Str.ofString "a_digit" then u else if y = Str.ofString "r" then some (.int r tr) else if y = Str.ofString "q_digit" then qv else m y) → News h₀ env.locals h ((lq, W.listOf qs.toArray k) :: rest) → Q .next { s with heap := h, toks := tk }) :
    wpAny (model prog w) A (pyIter (.ref I)) (fun it s₂ => LoopAtV prog w A h₀ env (Str.ofString "a_digit") body Q E it s₂) E s := by
  have hlen : vs.length = ds.length := hi.length
  have hmem : (la, W.listOf vs.toArray k2) ∈ (I, revObj la k) :: (lq, W.listOf #[] 0) :: rest := .tail _ (.tail _ hla)
  have hlL := (N _ hmem).2.1
  refine loop_rev (fun c => dmpLed lq c.1) (MpOf [Str.ofString "r", Str.ofString "q_digit"] m) (DmpInv n b ds) (fun d => d ≠ lq) (([], 0), m) hh (News.isList N hmem) hlL (o1 _ hla) hk F N
    (fun i c _ p hp e => ?_) o1 o2 (o2 _ hla) (Nat.ne_of_gt o3) (fun y _ => mpOf_start _ _ _ y) ⟨[], 0, t0, hr, .nil, rfl, (fun _ h => nomatch h), Int.le_refl _, hb, ?_⟩ ?_ ?_
  · rw [List.mem_singleton.mp hp] at e
    exact absurd e (Nat.ne_of_lt o3)
  · rw [Nat.sub_zero, List.drop_length]; simp [digV]
  · rintro ⟨⟨qs, k⟩, f⟩ u h tk ⟨qd, r, tr, hr', hq, hl, hz, h1, h2, h3⟩ F' N'
    rw [hlen] at hl
    have h3' : digV n ds = digV n qd.reverse * b + r := by rw [hlen, Nat.sub_self, List.drop_zero] at h3; exact h3
    exact done qs k qd r tr _ u h tk hq hl hz h1 h2 h3' (open2 F' hr' rfl) N'
  · rintro i v ⟨⟨qs, k⟩, f⟩ h tk tl hlt hv ⟨qd, r, tr, hr', hq, hl, hz, h1, h2, h3⟩ hR ht F' N'
    rw [hlen] at hlt hv
    have hx : ds[ds.length - 1 - i]? = some (ds[ds.length - 1 - i]'(by omega)) := List.getElem?_eq_getElem (by omega)
    obtain ⟨td, ht'⟩ := hi.get _ _ hx
    rw [ht'] at hv
    cases hv
    have hmem : ds[ds.length - 1 - i]'(by omega) ∈ ds := List.getElem_mem _
    have hdd := hd _ hmem
    have st := long_step (n := n) hb h1 h2 hdd.1 hdd.2 h3
    refine turn i _ td qs k qd r tr _ h tk tl hmem hlt st.1 st.2.1 h1 h2 hq hl hR ht (fun qs' t1 t2 m₂ hq' hm₂ => ⟨_, _, t1, hm₂, hq', ?_, ?_, st.2.2.1, st.2.2.2.1, ?_⟩) (open2 F' hr' rfl) N'
    · rw [List.length_append, hl]; rfl
    · intro z hz'
      rcases List.mem_append.mp hz' with h | h
      · exact hz z h
      · rw [List.mem_singleton.mp h]; exact ⟨st.2.2.2.2.1, st.2.2.2.2.2.1⟩
    · rw [drop_next hlt, digV, List.reverse_append, List.reverse_singleton, List.singleton_append, digV]
      exact st.2.2.2.2.2.2

theorem pairT_ret {h₀ : Heap} {L x : Addr} {m : Str → Option Value} {news all : List (Addr × Obj)} {s : Shared} {Q : Value → Shared → Prop} {q r q' r' : Int}
    (hret : ∀ v news' h' tk', Fr h₀ L h' m → News h₀ L h' news' → PairT news q r v news' → Q v { s with heap := h', toks := tk' })
    {cI cD : Addr} {oI oD : Obj} {vI vD : Array Value} {tI tD t1 t2 : Tok} {psI psD : Array Value} {h' : Heap} {tk' : Nat} (F : Fr h₀ L h' m) (N : News h₀ L h' all)
    (hx : (x, ({ cls := .type "tuple", data := .seq #[.int q' t1, .int r' t2] } : Obj)) ∈ all) (hP : (68, tabObj psI) ∈ all) (hD : (75, tabObj psD) ∈ all) (eP : psI = #[rawInt 68, rawInt 4, .ref cI]) (eD : psD = #[rawInt 83, rawInt 4, .ref cD])
    (hcI : (cI, oI) ∈ all) (hcD : (cD, oD) ∈ all) (hs : ∀ p ∈ news, p ∈ all)
    (d1 : oI.data = .fields vI) (d2 : vI[1]? = some (.str (Str.ofString "_int2digits.<locals>.inner") tI)) (d3 : oD.data = .fields vD) (d4 : vD[1]? = some (.str (Str.ofString "_digits2int.<locals>.inner") tD))
    (l1 : @LT.lt Nat _ 75 cI) (l2 : @LT.lt Nat _ 75 cD) (l3 : @LT.lt Nat _ 75 x) (l4 : ∀ p ∈ news, p.1 < x) (hq : q' = q) (hr : r' = r) : Q (.ref x) { s with heap := h', toks := tk' } := by
  subst hq; subst hr; subst eP; subst eD
  refine hret (.ref x) _ h' tk' F (fun p hp => ?_) ⟨x, t1, t2, rfl, ⟨cI, oI, vI, tI, cD, oD, vD, tD, rfl, d1, d2, d3, d4, l1, l2⟩, l3, l4⟩
  rcases List.mem_cons.mp hp with e | hp
  · exact N p (e ▸ hP)
  · rcases List.mem_cons.mp hp with e | hp
    · exact N p (e ▸ hD)
    · rcases List.mem_cons.mp hp with e | hp
      · exact N p (e ▸ hcI)
      · rcases List.mem_cons.mp hp with e | hp
        · exact N p (e ▸ hcD)
        · rcases List.mem_cons.mp hp with e | hp
          · exact N p (e ▸ hx)
          · exact N p (hs p hp)

theorem dmp (w : World) (a b : Int) (ta tb : Tok) (ha : 0 ≤ a) (hb : 0 < b) (hn : Builtin.Int.intBits b ≤ 4000) (hab : (Builtin.Int.intBits a : Int) ≤ 100 * (Builtin.Int.intBits b : Int))
    (psI psD : Array Value) (news : List (Addr × Obj)) (hst : St2 psI psD news) :
    Spec w 87 110 [.int a ta, .int b tb] ((68, tabObj psI) :: (75, tabObj psD) :: news) (PairT news (a.fdiv b) (a.fmod b)) := by
  have zz : PySem.Challenge.rw_sw0076_02 = PySem.Challenge.rw_sw0076_02 := rfl
  revert zz
  unfold Spec
  k_fill
  intro zz p loose mean mg mb dp un gd cn cs a' ccd cl outer A₀ base h₀ L m s Q E hk B F X N T C1 C2 hd hu hret
  clear zz
  obtain ⟨hsI, hsD, hlo⟩ := hst
  have hsI' := TabSt.cons (e := (75, tabObj psD)) hsI
  have hoI : ∀ p ∈ (75, tabObj psD) :: news, p.1 ≠ 68 := List.forall_mem_cons.mpr ⟨show (75 : Nat) ≠ 68 by decide, fun p hp e => by have h1 : (75 : Nat) < p.1 := hlo p hp; rw [e] at h1; exact absurd h1 (by decide)⟩
  have hoD : ∀ p ∈ news, p.1 ≠ 75 := fun p hp => Nat.ne_of_gt (hlo p hp)
  refine wpAny_call ?_
  k_dflt cell_enter
  k_steps
  have hB : (Builtin.Int.intBits b : Int).toNat = Builtin.Int.intBits b := Int.toNat_natCast _
  have hb1 : 1 ≤ Builtin.Int.intBits b := bits_pos (by omega)
  have hbN : b < 2 ^ Builtin.Int.intBits b := (lt_bits (Nat.le_refl _)).1
  obtain ⟨hk9a, hk9b, hk7, hk8', hk6⟩ := count_digs (B := (Builtin.Int.intBits a : Int)) (n := (Builtin.Int.intBits b : Int)) (by omega) (by omega) hab
  have hlen := digs_length (Builtin.Int.intBits b : Int).toNat (((Builtin.Int.intBits a : Int) + (Builtin.Int.intBits b : Int) - 1).fdiv (Builtin.Int.intBits b : Int)).toNat a
  have hva : digV (Builtin.Int.intBits b : Int).toNat (digs (Builtin.Int.intBits b : Int).toNat a (((Builtin.Int.intBits a : Int) + (Builtin.Int.intBits b : Int) - 1).fdiv (Builtin.Int.intBits b : Int)).toNat) = a := by
    refine digs_val _ _ _ ha ?_
    have := lt_digs (a := a) (n := (Builtin.Int.intBits b : Int)) (N := (((Builtin.Int.intBits a : Int) + (Builtin.Int.intBits b : Int) - 1).fdiv (Builtin.Int.intBits b : Int)).toNat) (by omega) hk7 (Int.toNat_of_nonneg hk9a)
    rw [Int.sub_zero, Int.toNat_natCast] at this
    exact this
  have hline : 200 ≤ sizeLine := by decide
  refine LoopHere.mk ?_
  rename IntsAre _ (digs _ _ _) => hds
  refine dmp_loop (b := b) (n := (Builtin.Int.intBits b : Int).toNat) rfl hds (by assumption) (by assumption) (by k_mem) rfl (by k_all) (by k_all) (by assumption) rfl hb (fun d hd => digs_range _ _ _ d hd) ?_ ?_
  · intro i d td qs k qd r tr qv h tk tl hdm hi1 hA0 hA1 hr0 hr1 hqs hql hoff hsub hinv F9 N9
    k_steps
    all_goals first
      | exact shlOk2 (bits_lt hr0 (Int.lt_trans hr1 hbN)) (by omega)
      | exact turn_map (Led := dmpLed _) (_, _) (by k_asm) (by k_asm) (List.forall_mem_cons.mpr ⟨by k_mem, by walk_at "SUB"⟩) (by
           intro y hy hn
           obtain ⟨h1, hn⟩ := nc_cons hn
           obtain ⟨h2, _⟩ := nc_cons hn
           simp only [if_neg h1, if_neg h2, if_neg hy]) (hinv _ _ _ _ (ints_snoc hqs) (by rfl))
      | (have := hqs.length; omega)
      | (rw [hB]; exact hbN)
  · intro qs k qd r tr qv u h tk hqs hql hqr hr0 hr1 hval F9 N9
    k_steps
    all_goals first
      | ((refine' pairT_ret (by with_reducible assumption) ?F ?N ?hx ?hP ?hD ?eP ?eD ?hcI ?hcD ?hs ?d1 ?d2 ?d3 ?d4 ?l1 ?l2 ?l3 ?l4 ?_ ?_; (case F => with_reducible assumption); (case N => with_reducible assumption); (case hx => k_mem); (case hP => k_mem); (case hD => k_mem); (case eP => exact rfl); (case eD => exact rfl); (case hcI => k_mem); (case hcD => k_mem); (case hs => walk_at "SUB"); (case d1 => with_reducible assumption); (case d2 => with_reducible assumption); (case d3 => with_reducible assumption); (case d4 => with_reducible assumption); (case l1 => omega); (case l2 => omega); (case l3 => omega); (case l4 => exact allLt_all (by with_reducible assumption))); (exact (fdm_unique hb (by rw [← hval, hva]) hr0 hr1).1.symm); (exact (fdm_unique hb (by rw [← hval, hva]) hr0 hr1).2.symm))
      | (rw [List.length_reverse]; omega)
      | (have hx := hqr _ (List.mem_reverse.mp (by assumption)); have := bits_lt hx.1 hx.2; omega)
      | (have := hqs.length; omega)
  all_goals exact Int.ofNat_le.mpr (bits_pos (by omega))
end
section
-- Dvm
set_option maxHeartbeats 4000000


section
variable {w : World} {x y : Int} {ta tb : Tok} {psI psD : Array Value} {news : List (Addr × Obj)}
    {p : Program} {loose : List Str} {mean : ExcName → Option Value} {mg mb : Str → Option Value}
    {dp un : Nat} {gd : Option (List Code)} {cn : Str} {cs : Scope} {a : Addr} {ccd : Value} {cl : List (Str × Addr)} {outer : List Env} {A₀ : Around} {base h₀ : Heap} {L : Addr} {m : Str → Option Value} {s : Shared} {Q E : Value → Shared → Prop}
theorem dmp_use (hk : cs.kind = .function) (B : Below A₀ base outer h₀) (F : Fr h₀ L s.heap m) (X : (hd02.heap_1 w.params).In h₀) (N : News h₀ L s.heap ((68, tabObj psI) :: (75, tabObj psD) :: news)) (T : Top p loose mean mg mb h₀)
    (C1 : CodeHd base 72 68) (C2 : CodeHd base 79 75) (hd : dp + 110 < recursionLimit) (hu : un + 8 * 110 < cLine) (st : St2 psI psD news)
    (ret : ∀ v news' h' tk', Fr h₀ L h' m → News h₀ L h' news' → PairT news (x.fdiv y) (x.fmod y) v news' → Q v { s with heap := h', toks := tk' })
    (hc : 0 ≤ x ∧ 0 < y ∧ Builtin.Int.intBits y ≤ 4000 ∧ (Builtin.Int.intBits x : Int) ≤ 100 * (Builtin.Int.intBits y : Int)) :
    wpAny (model PySem.Challenge.rw_sw0076_02.row.prog w) (ktrTop dp un gd cn cs L a ccd cl outer) (call (.ref 87) [.int x ta, .int y tb]) Q E s :=
  Spec.use (dmp w x y ta tb hc.1 hc.2.1 hc.2.2.1 hc.2.2.2 psI psD news st) hk B F X N T C1 C2 hd hu ret
end
local macro_rules | `(tactic| walk_at "call ref") => `(tactic| (k_here; (with_reducible show wpAny _ _ (call (Value.ref 87) _) _ _ _); (k_dflt (refine' dmp_use (by exact rfl) (by k_asm) (by k_asm) (by k_asm) (by k_asm) (by k_asm) (by assumption) (by assumption) (by ktr_room) (by ktr_units) (by assumption) ?_ ?_)); intro v' news' h' tk' F' N' P'; (try dsimp only); (try k_fold)))

theorem dvm0 (w : World) (a b : Int) (ta tb : Tok) (ha : 0 ≤ a) (hb : 0 < b) (hn : Builtin.Int.intBits b ≤ 4000) (hab : (Builtin.Int.intBits a : Int) ≤ 100 * (Builtin.Int.intBits b : Int))
    (psI psD : Array Value) (news : List (Addr × Obj)) (hst : St2 psI psD news) :
    Spec w 94 111 [.int a ta, .int b tb] ((68, tabObj psI) :: (75, tabObj psD) :: news) (PairT news (a.fdiv b) (a.fmod b)) := by
  have zz : PySem.Challenge.rw_sw0076_02 = PySem.Challenge.rw_sw0076_02 := rfl
  revert zz
  unfold Spec
  k_fill
  intro zz p loose mean mg mb dp un gd cn cs a' ccd cl outer A₀ base h₀ L m s Q E hk B F X N T C1 C2 hd hu hret
  clear zz
  refine wpAny_call ?_
  k_dflt cell_enter
  k_steps
  all_goals first
    | omega
    | (exact hret _ _ _ _ (by k_asm) (by k_asm) (by assumption))
    | (refine ⟨?_, ?_, ?_, ?_⟩ <;> omega)

section
variable {w : World} {x y : Int} {ta tb : Tok} {psI psD : Array Value} {news : List (Addr × Obj)}
    {p : Program} {loose : List Str} {mean : ExcName → Option Value} {mg mb : Str → Option Value}
    {dp un : Nat} {gd : Option (List Code)} {cn : Str} {cs : Scope} {a : Addr} {ccd : Value} {cl : List (Str × Addr)} {outer : List Env} {A₀ : Around} {base h₀ : Heap} {L : Addr} {m : Str → Option Value} {s : Shared} {Q E : Value → Shared → Prop}
theorem dvm0_use (hk : cs.kind = .function) (B : Below A₀ base outer h₀) (F : Fr h₀ L s.heap m) (X : (hd02.heap_1 w.params).In h₀) (N : News h₀ L s.heap ((68, tabObj psI) :: (75, tabObj psD) :: news)) (T : Top p loose mean mg mb h₀)
    (C1 : CodeHd base 72 68) (C2 : CodeHd base 79 75) (hd : dp + 111 < recursionLimit) (hu : un + 8 * 111 < cLine) (st : St2 psI psD news)
    (ret : ∀ v news' h' tk', Fr h₀ L h' m → News h₀ L h' news' → PairT news (x.fdiv y) (x.fmod y) v news' → Q v { s with heap := h', toks := tk' })
    (hc : 0 ≤ x ∧ 0 < y ∧ Builtin.Int.intBits y ≤ 4000 ∧ (Builtin.Int.intBits x : Int) ≤ 100 * (Builtin.Int.intBits y : Int)) :
    wpAny (model PySem.Challenge.rw_sw0076_02.row.prog w) (ktrTop dp un gd cn cs L a ccd cl outer) (call (.ref 94) [.int x ta, .int y tb]) Q E s :=
  Spec.use (dvm0 w x y ta tb hc.1 hc.2.1 hc.2.2.1 hc.2.2.2 psI psD news st) hk B F X N T C1 C2 hd hu ret
end
local macro_rules | `(tactic| walk_at "call ref") => `(tactic| (k_here; (with_reducible show wpAny _ _ (call (Value.ref 94) _) _ _ _); (k_dflt (refine' dvm0_use (by exact rfl) (by k_asm) (by k_asm) (by k_asm) (by k_asm) (by k_asm) (by assumption) (by assumption) (by ktr_room) (by ktr_units) (by assumption) ?_ ?_)); intro v' news' h' tk' F' N' P'; obtain ⟨x', t1', t2', e1, ⟨cI, oI, vI, tI, cD, oD, vD, tD, e2, d1, d2, d3, d4, l1, l2⟩, l3, l4⟩ := P'; subst e1; subst e2; (try k_lt l4); (try dsimp only); (try k_fold)))

theorem dvm1 (w : World) (a b : Int) (ta tb : Tok) (ha : a < 0) (hb : 0 < b) (hn : Builtin.Int.intBits b ≤ 4000) (hab : (Builtin.Int.intBits a : Int) ≤ 100 * (Builtin.Int.intBits b : Int))
    (psI psD : Array Value) (news : List (Addr × Obj)) (hst : St2 psI psD news) :
    Spec w 94 112 [.int a ta, .int b tb] ((68, tabObj psI) :: (75, tabObj psD) :: news) (PairT news (a.fdiv b) (a.fmod b)) := by
  have zz : PySem.Challenge.rw_sw0076_02 = PySem.Challenge.rw_sw0076_02 := rfl
  revert zz
  unfold Spec
  k_fill
  intro zz p loose mean mg mb dp un gd cn cs a' ccd cl outer A₀ base h₀ L m s Q E hk B F X N T C1 C2 hd hu hret
  clear zz
  have hlo := hst.2.2
  have f0 := fdm_facts (Builtin.bitNot a) hb
  have f1 := fdm_unique (a := a) (q := Builtin.bitNot ((Builtin.bitNot a).fdiv b)) (r := b + Builtin.bitNot ((Builtin.bitNot a).fmod b)) hb (by
    have := f0.1
    generalize (Builtin.bitNot a).fdiv b = q at *
    generalize (Builtin.bitNot a).fmod b = r at *
    unfold Builtin.bitNot at *
    grind) (by unfold Builtin.bitNot at *; omega) (by unfold Builtin.bitNot at *; omega)
  have f2 : 0 ≤ Builtin.bitNot a := by unfold Builtin.bitNot; omega
  have f3 : Builtin.Int.intBits (Builtin.bitNot a) ≤ Builtin.Int.intBits a := bits_lt f2 (by
    have := (lt_bits (Nat.le_refl (Builtin.Int.intBits a))).2
    unfold Builtin.bitNot; omega)
  refine wpAny_call ?_
  k_dflt cell_enter
  k_steps
  all_goals first
    | omega
    | ((refine' pairT_ret (by with_reducible assumption) ?F ?N ?hx ?hP ?hD ?eP ?eD ?hcI ?hcD ?hs ?d1 ?d2 ?d3 ?d4 ?l1 ?l2 ?l3 ?l4 ?_ ?_; (case F => with_reducible assumption); (case N => with_reducible assumption); (case hx => k_mem); (case hP => k_mem); (case hD => k_mem); (case eP => exact rfl); (case eD => exact rfl); (case hcI => k_mem); (case hcD => k_mem); (case hs => walk_at "SUB"); (case d1 => with_reducible assumption); (case d2 => with_reducible assumption); (case d3 => with_reducible assumption); (case d4 => with_reducible assumption); (case l1 => omega); (case l2 => omega); (case l3 => omega); (case l4 => exact allLt_all (by with_reducible assumption))); (exact f1.1.symm); (exact f1.2.symm))
    | (refine ⟨?_, ?_, ?_, ?_⟩ <;> omega)

theorem dvm01 (w : World) (a b : Int) (ta tb : Tok) (hb : 0 < b) (hn : Builtin.Int.intBits b ≤ 4000) (hab : (Builtin.Int.intBits a : Int) ≤ 100 * (Builtin.Int.intBits b : Int))
    (psI psD : Array Value) (news : List (Addr × Obj)) (hst : St2 psI psD news) :
    Spec w 94 112 [.int a ta, .int b tb] ((68, tabObj psI) :: (75, tabObj psD) :: news) (PairT news (a.fdiv b) (a.fmod b)) := by
  by_cases ha : a < 0
  · exact dvm1 w a b ta tb ha hb hn hab psI psD news hst
  · exact Spec.mono (dvm0 w a b ta tb (by omega) hb hn hab psI psD news hst) (by decide)

section
variable {w : World} {x y : Int} {ta tb : Tok} {psI psD : Array Value} {news : List (Addr × Obj)}
    {p : Program} {loose : List Str} {mean : ExcName → Option Value} {mg mb : Str → Option Value}
    {dp un : Nat} {gd : Option (List Code)} {cn : Str} {cs : Scope} {a : Addr} {ccd : Value} {cl : List (Str × Addr)} {outer : List Env} {A₀ : Around} {base h₀ : Heap} {L : Addr} {m : Str → Option Value} {s : Shared} {Q E : Value → Shared → Prop}
theorem dvm01_use (hk : cs.kind = .function) (B : Below A₀ base outer h₀) (F : Fr h₀ L s.heap m) (X : (hd02.heap_1 w.params).In h₀) (N : News h₀ L s.heap ((68, tabObj psI) :: (75, tabObj psD) :: news)) (T : Top p loose mean mg mb h₀)
    (C1 : CodeHd base 72 68) (C2 : CodeHd base 79 75) (hd : dp + 112 < recursionLimit) (hu : un + 8 * 112 < cLine) (st : St2 psI psD news)
    (ret : ∀ v news' h' tk', Fr h₀ L h' m → News h₀ L h' news' → PairT news (x.fdiv y) (x.fmod y) v news' → Q v { s with heap := h', toks := tk' })
    (hc : 0 < y ∧ Builtin.Int.intBits y ≤ 4000 ∧ (Builtin.Int.intBits x : Int) ≤ 100 * (Builtin.Int.intBits y : Int)) :
    wpAny (model PySem.Challenge.rw_sw0076_02.row.prog w) (ktrTop dp un gd cn cs L a ccd cl outer) (call (.ref 94) [.int x ta, .int y tb]) Q E s :=
  Spec.use (dvm01 w x y ta tb hc.1 hc.2.1 hc.2.2 psI psD news st) hk B F X N T C1 C2 hd hu ret
end
local macro_rules | `(tactic| walk_at "call ref") => `(tactic| (k_here; (with_reducible show wpAny _ _ (call (Value.ref 94) _) _ _ _); (k_dflt (refine' dvm01_use (by exact rfl) (by k_asm) (by k_asm) (by k_asm) (by k_asm) (by k_asm) (by assumption) (by assumption) (by ktr_room) (by ktr_units) (by assumption) ?_ ?_)); intro v' news' h' tk' F' N' P'; obtain ⟨x', t1', t2', e1, ⟨cI, oI, vI, tI, cD, oD, vD, tD, e2, d1, d2, d3, d4, l1, l2⟩, l3, l4⟩ := P'; subst e1; subst e2; (try k_lt l4); (try dsimp only); (try k_fold)))

theorem dvm2 (w : World) (a b : Int) (ta tb : Tok) (hb : b < 0) (hn : Builtin.Int.intBits b ≤ 4000) (hab : (Builtin.Int.intBits a : Int) ≤ 100 * (Builtin.Int.intBits b : Int))
    (psI psD : Array Value) (news : List (Addr × Obj)) (hst : St2 psI psD news) :
    Spec w 94 113 [.int a ta, .int b tb] ((68, tabObj psI) :: (75, tabObj psD) :: news) (PairT news (a.fdiv b) (a.fmod b)) := by
  have zz : PySem.Challenge.rw_sw0076_02 = PySem.Challenge.rw_sw0076_02 := rfl
  revert zz
  unfold Spec
  k_fill
  intro zz p loose mean mg mb dp un gd cn cs a' ccd cl outer A₀ base h₀ L m s Q E hk B F X N T C1 C2 hd hu hret
  clear zz
  have hlo := hst.2.2
  have f1 : (-a).fdiv (-b) = a.fdiv b := Int.neg_fdiv_neg a b
  have f2 : -((-a).fmod (-b)) = a.fmod b := by
    rw [Int.fmod_def, Int.fmod_def, f1, Int.neg_mul]; omega
  have f3 : Builtin.Int.intBits (-a) = Builtin.Int.intBits a := by unfold Builtin.Int.intBits; simp
  have f4 : Builtin.Int.intBits (-b) = Builtin.Int.intBits b := by unfold Builtin.Int.intBits; simp
  refine wpAny_call ?_
  k_dflt cell_enter
  k_steps
  all_goals first
    | omega
    | ((refine' pairT_ret (by with_reducible assumption) ?F ?N ?hx ?hP ?hD ?eP ?eD ?hcI ?hcD ?hs ?d1 ?d2 ?d3 ?d4 ?l1 ?l2 ?l3 ?l4 ?_ ?_; (case F => with_reducible assumption); (case N => with_reducible assumption); (case hx => k_mem); (case hP => k_mem); (case hD => k_mem); (case eP => exact rfl); (case eD => exact rfl); (case hcI => k_mem); (case hcD => k_mem); (case hs => walk_at "SUB"); (case d1 => with_reducible assumption); (case d2 => with_reducible assumption); (case d3 => with_reducible assumption); (case d4 => with_reducible assumption); (case l1 => omega); (case l2 => omega); (case l3 => omega); (case l4 => exact allLt_all (by with_reducible assumption))); (exact f1); (exact f2))
    | (refine ⟨?_, ?_, ?_⟩ <;> omega)

/-- int_divmod: floor division, for a divisor that is not nought -/
theorem dvm (w : World) (a b : Int) (ta tb : Tok) (hb : b ≠ 0) (hn : Builtin.Int.intBits b ≤ 4000) (hab : (Builtin.Int.intBits a : Int) ≤ 100 * (Builtin.Int.intBits b : Int))
    (psI psD : Array Value) (news : List (Addr × Obj)) (hst : St2 psI psD news) :
    Spec w 94 113 [.int a ta, .int b tb] ((68, tabObj psI) :: (75, tabObj psD) :: news) (PairT news (a.fdiv b) (a.fmod b)) := by
  by_cases h : b < 0
  · exact dvm2 w a b ta tb h hn hab psI psD news hst
  · exact Spec.mono (dvm01 w a b ta tb (by omega) hn hab psI psD news hst) (by decide)
end
section
-- Strip
local macro_rules | `(tactic| walk_at "ZZ") => `(tactic| skip)
set_option maxHeartbeats 4000000
/-- as Spec, for a call that makes generators: they are done with at its end -/
def SpecG (w : World) (f : Addr) (d : Nat) (vs : List Value) (news : List (Addr × Obj)) (Post : Value → List (Addr × Obj) → Prop) : Prop :=
  ∀ (p : Program) (loose : List Str) (mean : ExcName → Option Value) (mg mb : Str → Option Value)
    (dp un : Nat) (gd : Option (List Code)) (cn : Str) (cs : Scope) (a : Addr) (ccd : Value) (cl : List (Str × Addr)) (outer : List Env) (A₀ : Around) (base h₀ : Heap) (L : Addr) (m : Str → Option Value) (s : Shared) (Q E : Value → Shared → Prop),
    cs.kind = .function → Below A₀ base outer h₀ → Fr h₀ L s.heap m → (hd02.heap_1 w.params).In h₀ → News h₀ L s.heap news → Top p loose mean mg mb h₀ →
    CodeHd base 72 68 → CodeHd base 79 75 →
    dp + d < recursionLimit → un + 8 * d < cLine →
    (∀ v news' h' tk' G, Fr h₀ L h' m → News h₀ L h' news' → Post v news' → (AllBare s.gens → AllBare G) → Q v { s with heap := h', toks := tk', gens := G }) →
    wpAny (model PySem.Challenge.rw_sw0076_02.row.prog w) (ktrTop dp un gd cn cs L a ccd cl outer) (call (.ref f) vs) Q E s

theorem SpecG.use {w : World} {f : Addr} {d : Nat} {vs : List Value} {news : List (Addr × Obj)} {Post : Value → List (Addr × Obj) → Prop} (S : SpecG w f d vs news Post)
    {p : Program} {loose : List Str} {mean : ExcName → Option Value} {mg mb : Str → Option Value}
    {dp un : Nat} {gd : Option (List Code)} {cn : Str} {cs : Scope} {a : Addr} {ccd : Value} {cl : List (Str × Addr)} {outer : List Env} {A₀ : Around} {base h₀ : Heap} {L : Addr} {m : Str → Option Value} {s : Shared} {Q E : Value → Shared → Prop}
    (hk : cs.kind = .function) (B : Below A₀ base outer h₀) (F : Fr h₀ L s.heap m) (X : (hd02.heap_1 w.params).In h₀) (N : News h₀ L s.heap news) (T : Top p loose mean mg mb h₀)
    (C1 : CodeHd base 72 68) (C2 : CodeHd base 79 75) (hd : dp + d < recursionLimit) (hu : un + 8 * d < cLine)
    (ret : ∀ v news' h' tk' G, Fr h₀ L h' m → News h₀ L h' news' → Post v news' → (AllBare s.gens → AllBare G) → Q v { s with heap := h', toks := tk', gens := G }) :
    wpAny (model PySem.Challenge.rw_sw0076_02.row.prog w) (ktrTop dp un gd cn cs L a ccd cl outer) (call (.ref f) vs) Q E s :=
  S p loose mean mg mb dp un gd cn cs a ccd cl outer A₀ base h₀ L m s Q E hk B F X N T C1 C2 hd hu ret
local macro_rules | `(tactic| walk_at "exec For") => `(tactic| (refine LoopHere.out ?_))
local macro_rules | `(tactic| walk_at "call builtin:str.join") => `(tactic| (k_here; (refine join_listW (by is_list) (by first | with_reducible assumption | exact strs_snoc (by with_reducible assumption)) (by decide +kernel) ?_ ?_)))
local macro_rules | `(tactic| walk_at "SAME") => `(tactic| (intro z h1 h2 h3; obtain ⟨h4, h3⟩ := nc_cons h3; obtain ⟨h5, _⟩ := nc_cons h3; simp only [if_neg h1, if_neg h2, if_neg h4, if_neg h5]))
theorem strip (w : World) (x : Str) (t : Tok) (hok : StripOk x) (news : List (Addr × Obj)) :
    SpecG w 52 5 [.str x t] news (fun v news' => ∃ u, v = .str (stripF x) u ∧ news' = news) := by
  obtain ⟨hasc, hlen, hys, hsum⟩ := hok
  have zz : PySem.Challenge.rw_sw0076_02 = PySem.Challenge.rw_sw0076_02 := rfl
  revert zz
  unfold SpecG
  k_fill
  intro zz p loose mean mg mb dp un gd cn cs a' ccd cl outer A₀ base h₀ L m s Q E hk B F X N T C1 C2 hd hu hret
  clear zz
  refine wpAny_call ?_
  k_dflt cell_enter
  k_steps
  · exact hret _ _ _ _ _ (by k_asm) (by k_asm) ⟨t, congrArg (Value.str · t) (if_pos (by assumption)).symm, rfl⟩ id
  · rename _ = false => hocc
    refine wpAny_For ?_ (fun _ => rfl)
    k_steps
    refine wpAny_call ?_
    k_dflt (refine' code_gen ?F ?X ?T ?ho ?hcd ?hroom ?hb ?hl ?_ ?c1 ?c2 ?c3 ?c4; (case F => k_asm); (case X => k_asm); (case T => k_asm); (case ho => k_is); (case hcd => k_is); (case hroom => ktr_room); (case hb => exact BindsTo.of_eq rfl); (case hl => exact locs rfl); (case c1 => exact rfl); (case c2 => exact rfl); (case c3 => exact rfl); (case c4 => decide))
    intro h₁ tk₁ hns₁ hg₁ hsz₁ hk₁
    dsimp only at hns₁ hg₁ hsz₁ hk₁ ⊢
    refine wpAny_pyIter_gen hg₁ ?_
    rename Fr _ _ _ _ => Fc
    rename News _ _ _ (_ :: _) => Nc
    rename Top _ _ _ _ _ _ => Tc
    rename Frag.In _ _ => Xc
    have Fk : Fr _ _ h₁ _ := Fr.keeps Fc hk₁
    have Nk : News _ _ h₁ _ := fun p hp => ⟨hk₁ _ _ (Nc p hp).1, (Nc p hp).2⟩
    have hLlt := Fc.ns.lt
    have hgab := Fc.above
    have hNlt := lt_size Nc
    refine' strip_loop (ys := escY x.cps.toList 0 false) (cutS x) rfl ?hroom Tc.nolimit rfl rfl rfl ?hCs ?hCL ?haL ?haC ?ha0 ?hC0 hg₁ ?hgs ?hseg Fk Nk ?hoff ?hlr ?hra ?hrr rfl rfl ?turn ?done
    case hgs => exact Array.getElem?_push_size ..
    case hroom => ktr_room
    case hCs => (show @LT.lt Nat _ _ h₁.objs.size; rw [hsz₁]; exact Nat.lt_succ_of_lt (Nat.lt_succ_self _))
    case hCL => exact Nat.ne_of_lt hLlt
    case haL => exact Nat.ne_of_lt (Nat.lt_succ_of_lt hLlt)
    case haC => exact Nat.succ_ne_self _
    case ha0 => exact Heap.get?_none_of_le (Nat.le_trans hgab (Nat.le_of_lt (Nat.lt_succ_of_lt hLlt)))
    case hC0 => exact Heap.get?_none_of_le (Nat.le_trans hgab (Nat.le_of_lt hLlt))
    case hoff => exact fun p hp => ⟨Nat.ne_of_lt (hNlt p (.tail _ hp)), Nat.ne_of_lt (Nat.lt_succ_of_lt (hNlt p (.tail _ hp)))⟩
    case hlr => exact Nat.ne_of_lt (hNlt _ (.head _))
    case hra => exact Nat.ne_of_lt (Nat.lt_succ_of_lt (hNlt _ (.head _)))
    case hrr => k_all
    case hseg =>
      refine' strip_seg rfl rfl rfl rfl rfl rfl rfl rfl hasc hns₁ rfl ?hC1 ?hbk1 ?hbC1 (hen_of Xc Tc rfl rfl rfl rfl (by k_is))
      case hC1 => show @LT.lt Nat _ _ h₁.objs.size; rw [hsz₁]; exact Nat.lt_succ_of_lt (Nat.lt_succ_self _)
      case hbk1 => exact fun b o q => hk₁ b o (Fc.keep b o q)
      case hbC1 => exact Heap.get?_none_of_le (Nat.le_trans hgab (Nat.le_of_lt hLlt))
    case turn =>
      intro i y h tk gs tl t u st op rs vs k ts to hy hvs hst hsub hofl F' N'
      clear hns₁ hg₁ hsz₁ hk₁ Fc Nc Fk Nk hLlt hgab hNlt
      have hvl : vs.length ≤ sizeLine := by rw [strs_len hvs]; exact Nat.le_trans (stripFold_len _ _ _ hst) (Nat.le_trans hys (by decide))
      cases op with
      | none =>
        dsimp only [openV] at F'
        k_steps
        all_goals first
          | exact hvl
          | exact strip_end (by k_asm) (by k_asm) (by k_mem) (by walk_at "SUB") (by walk_at "SAME") (by exact rfl) (by exact rfl) hvs (fold_open hy (by assumption) hst)
          | exact strip_end (to := to) (by k_asm) (by k_asm) (by k_mem) (by walk_at "SUB") (by walk_at "SAME") (by exact rfl) (by exact rfl) hvs (fold_other hy (by assumption) hst)
      | some o =>
        dsimp only [openV] at F'
        k_steps
        all_goals first
          | exact hvl
          | exact strip_end (to := to) (by k_asm) (by k_asm) (by k_mem) (by walk_at "SUB") (by walk_at "SAME") (by exact rfl) (by exact rfl) (strs_snoc hvs) (fold_ne hy (by assumption) hst (by assumption))
          | exact strip_end (to := to) (by k_asm) (by k_asm) (by k_mem) (by walk_at "SUB") (by walk_at "SAME") (by exact rfl) (by exact rfl) hvs (fold_eq hy (by assumption) hst (by assumption))
          | exact strip_end (to := to) (by k_asm) (by k_asm) (by k_mem) (by walk_at "SUB") (by walk_at "SAME") (by exact rfl) (by exact rfl) hvs (fold_other hy (by assumption) hst)
    case done =>
      intro u1 u2 h tk st op rs vs k ts to hvs hst F' N'
      clear hns₁ hg₁ hsz₁ hk₁ Fc Nc Fk Nk hLlt hgab hNlt
      have hvl : vs.length ≤ sizeLine := by rw [strs_len hvs]; exact Nat.le_trans (stripFold_len _ _ (escY x.cps.toList 0 false).length (by rw [List.take_length]; exact hst)) (Nat.le_trans hys (by decide))
      k_steps
      all_goals first
        | exact hvl
        | (rw [← out_lt hst (by assumption)]; exact hsum)
        | (rw [← out_ge hst (by assumption)]; exact hsum)
        | (refine' hret _ _ _ _ _ ?F ?N ⟨_, congrArg (Value.str · _) (strip_join hocc (out_lt hst (by assumption))), rfl⟩ ?B; (case F => k_asm); (case N => exact news_tl (by with_reducible assumption)); (case B => exact bare_gen))
        | (refine' hret _ _ _ _ _ ?F ?N ⟨_, congrArg (Value.str · _) (strip_join hocc (out_ge hst (by assumption))), rfl⟩ ?B; (case F => k_asm); (case N => exact news_tl (by with_reducible assumption)); (case B => exact bare_gen))
end
section
local macro_rules | `(tactic| k_room) => `(tactic| ktr_room)
local macro_rules | `(tactic| k_enter) => `(tactic| first
  | (refine' code_def (by k_asm) (by k_asm) (by k_asm) (by k_asm) (by k_asm) (by exact rfl) (by exact rfl) (by first | exact rfl | assumption) (by k_is) (by k_is) (by ktr_room) (by first | exact BindsTo.of_eq rfl | exact binds_K (by k_in) rfl (by k_is) rfl rfl rfl | (refine' kp_binds ?kx ?ke; (case kx => k_in); (case ke => exact fun _ => rfl)) | fail "k_enter: no rule for these arguments") (by exact locs rfl) ?_ (by exact rfl) (by exact rfl) (by exact rfl) (by decide); k_whole; intro g' L' h' FG' F' N' B' X' T'; (try dsimp only); (try k_lift B'); (try k_fold))
  | walk_at "ENTERM")
local macro_rules | `(tactic| walk_at "ENTERM") => `(tactic| (refine' kp_more (by k_asm) (by k_asm) (by k_asm) (by k_asm) (by k_asm) (by exact rfl) (by exact rfl) (by first | exact rfl | assumption) (by k_is) (by k_is) (by ktr_room) (by kp_lit) (by exact rfl) (by exact rfl) (by kp_flats) (by exact rfl) (by exact rfl) (by exact fun _ => rfl) (by exact fun _ => locs rfl) ?_ (by exact rfl) (by exact rfl) (by exact rfl) (by decide); k_whole; intro D' o' g' L' h' tk' l1 lo' hs' fs' FG' F' N' B' X' T'; (try k_lt l1); (try dsimp only); (try k_lift B'); (try k_fold)))
local macro_rules | `(tactic| walk_at "exec For Tuple Call") => `(tactic| ((fail_if_success (with_reducible rename LoopHere True => zz)); (have mk8 := LoopHere.mk True.intro); (with_reducible rename News _ _ _ _ => nN); (have l8 := lt_size nN); (try k_lt l8); walk_at "exec For Tuple Call"))
local macro_rules | `(tactic| walk_at "exec For") => `(tactic| ((with_reducible rename News _ _ _ _ => nN); (have l8 := lt_size nN); (try k_lt l8); (refine wpAny_For ?_ (fun _ => rfl))))
local macro_rules | `(tactic| walk_at "pyIter ref") => `(tactic| (k_here; (k_dflt (refine' loop_none (by exact rfl) (by is_list) (by k_asm) (by k_asm) ?_)); intro h' tk' F' N'))
local macro_rules | `(tactic| walk_at "getMethod ref") => `(tactic| (k_here; (with_reducible show wpAny _ _ (getMethod (Value.ref _) (PySem.Str.ofString "search") _) _ _ _); k_dflt (refine' get_search (by k_in) (by k_is) (by exact rfl) (by exact rfl) ?_)))
local macro_rules | `(tactic| walk_at "call builtin:re.Pattern.search") => `(tactic| (k_here; k_dflt (refine' search_none (patIn_of (code := ?code) ?X ?o ?o2 ?e) ?sc ?sz ?hn ?_; (case hn => with_reducible assumption); (case sz => with_reducible assumption); (case X => k_in); (case o => k_is); (case o2 => k_is); (case e => decide +kernel); (case sc => first | exact nameSet | exact valueSet))))
section
-- Conv
set_option maxHeartbeats 4000000
theorem join_one {sep y : Str} : Txt.join sep [y] = y := by rfl
local macro_rules | `(tactic| walk_at "call builtin:str.join") => `(tactic| (k_here; (refine join_listW (by is_list) (by first | with_reducible assumption | exact .cons _ _ .nil) (by decide +kernel) ?_ ?_)))
abbrev hdDict (P : Params) (l : Addr) (t : Tok) : Obj := dictOf [{ hash := PyData.keyHash P (Str.ofString "_headers"), key := .str (Str.ofString "_headers") t, val := .ref l }] 1
def AddP (P : Params) (ax ad al : Addr) (vs : List Value) (k : Nat) (x y : Str) (t : Tok) (news : List (Addr × Obj)) (v : Value) (news' : List (Addr × Obj)) : Prop :=
  ∃ (T : Addr) (t1 t2 : Tok), v = Value.none ∧ news' = (al, W.listOf (vs ++ [Value.ref T]).toArray (k + 1)) :: (T, { cls := .type "tuple", data := .seq #[.str x t1, .str y t2] }) :: (ax, instObj 238 ad) :: (ad, hdDict P al t) :: news ∧ @LT.lt Nat _ al T ∧ ∀ p ∈ news, p.1 < T
theorem add_ret {P : Params} {ax ad al T : Addr} {vs : List Value} {k : Nat} {x y y' : Str} {t t1 t2 : Tok} {news all : List (Addr × Obj)} {h₀ h' : Heap} {L : Addr} {m : Str → Option Value} {s : Shared} {Q : Value → Shared → Prop} {tk' : Nat}
    (hret : ∀ v news' h' tk', Fr h₀ L h' m → News h₀ L h' news' → AddP P ax ad al vs k x y t news v news' → Q v { s with heap := h', toks := tk' })
    (F : Fr h₀ L h' m) (N : News h₀ L h' all) (h1 : (al, W.listOf (vs ++ [Value.ref T]).toArray (k + 1)) ∈ all) (h2 : (T, ({ cls := .type "tuple", data := .seq #[.str x t1, .str y' t2] } : Obj)) ∈ all) (h3 : (ax, instObj 238 ad) ∈ all) (h4 : (ad, hdDict P al t) ∈ all)
    (hs : ∀ p ∈ news, p ∈ all) (hy : y' = y) (l1 : @LT.lt Nat _ al T) (l2 : ∀ p ∈ news, p.1 < T) : Q .none { s with heap := h', toks := tk' } := by
  subst hy
  refine hret .none _ h' tk' F (fun p hp => N p ?_) ⟨T, t1, t2, rfl, rfl, l1, l2⟩
  rcases List.mem_cons.mp hp with e | hp
  · exact e ▸ h1
  rcases List.mem_cons.mp hp with e | hp
  · exact e ▸ h2
  rcases List.mem_cons.mp hp with e | hp
  · exact e ▸ h3
  rcases List.mem_cons.mp hp with e | hp
  · exact e ▸ h4
  exact hs p hp
theorem addh (w : World) (x y : Str) (tx ty t : Tok) (ax ad al : Addr) (vs : List Value) (k : Nat) (news : List (Addr × Obj)) (h1 : ad < ax) (h2 : ax < al) (hx : ∀ p, p < x.cps.size → NoHit nameCode (x.cps.getD p 0)) (hy : ∀ p, p < y.cps.size → NoHit valueCode (y.cps.getD p 0)) (hxs : x.cps.size < 2 ^ 63) (hys : y.cps.size < 2 ^ 63) (hyl : y.length ≤ 1000000) (hna : ∀ p ∈ (ax, instObj 238 ad) :: (ad, hdDict w.params al t) :: news, p.1 ≠ al) (hvl : vs.length ≤ sizeLine) :
    Spec w 235 5 [.ref ax, .str x tx, .str y ty] ((al, W.listOf vs.toArray k) :: (ax, instObj 238 ad) :: (ad, hdDict w.params al t) :: news) (AddP w.params ax ad al vs k x y t news) := by
  have zz : PySem.Challenge.rw_sw0076_02 = PySem.Challenge.rw_sw0076_02 := rfl
  revert zz
  unfold Spec
  k_fill
  intro zz p loose mean mg mb dp un gd cn cs a' ccd cl outer A₀ base h₀ L m s Q E hk B F X N T C1 C2 hd hu hret
  clear zz
  refine wpAny_call ?_
  k_dflt k_enter
  k_steps
  walk_at "call builtin:re.Pattern.search"
  k_steps
  · simp; omega
  · refine' add_ret hret ?F ?N ?h1 ?h2 ?h3 ?h4 ?hs ?hy ?l1 ?l2
    case F => k_asm
    case N => with_reducible assumption
    case h1 => k_mem
    case h2 => k_mem
    case h3 => k_mem
    case h4 => k_mem
    case hs => walk_at "SUB"
    case hy => exact join_one
    case l1 => omega
    case l2 =>
      exact allLt_all (by with_reducible assumption)
end
section
-- Make
local macro_rules | `(tactic| walk_at "ZZ") => `(tactic| skip)
set_option maxHeartbeats 4000000
local macro_rules | `(tactic| walk_at "call ref") => `(tactic| (k_here; (with_reducible show wpAny _ _ (call (Value.ref 238) _) _ _ _); (k_dflt ((with_reducible rename Fr _ _ _ _ => fF'); (with_reducible rename Frag.In _ _ => xX'); (with_reducible rename News _ _ _ _ => nN'); (refine' call_cls fF' xX' nN' (by k_is) (by k_is) (by k_is) ?_; k_whole; intro x' d' h' F' N' l1 l2; (try k_lt l1); (try k_lt2 l2); (try k_sweep)))); k_enter))
/-- a new table -/
def MakeP (P : Params) (news : List (Addr × Obj)) (v : Value) (news' : List (Addr × Obj)) : Prop :=
  ∃ (al ax ad : Addr) (t : Tok) (k : Nat), v = .ref ax ∧ news' = (al, W.listOf #[] k) :: (ax, instObj 238 ad) :: (ad, hdDict P al t) :: news ∧ @LT.lt Nat _ ad ax ∧ @LT.lt Nat _ ax al ∧ ∀ p ∈ news, @LT.lt Nat _ p.1 ad
theorem make (w : World) (news : List (Addr × Obj)) : Spec w 238 5 [] news (MakeP w.params news) := by
  have zz : PySem.Challenge.rw_sw0076_02 = PySem.Challenge.rw_sw0076_02 := rfl
  revert zz
  unfold Spec
  k_fill
  intro zz p loose mean mg mb dp un gd cn cs a' ccd cl outer A₀ base h₀ L m s Q E hk B F X N T C1 C2 hd hu hret
  clear zz
  k_steps
  exact hret _ _ _ _ (by k_asm) (by k_asm) ⟨_, _, _, _, _, rfl, rfl, by assumption, by omega, allLt_all (by with_reducible assumption)⟩
end
section
-- GetAll
set_option maxHeartbeats 4000000
open LCg LCt
local macro_rules | `(tactic| walk_at "call builtin:str.lower") => `(tactic| (k_here; (refine SCL.lower ?_ ?_); (with_reducible assumption); intro _))
local macro_rules | `(tactic| walk_at "eval ListComp") => `(tactic| (k_here; k_dflt (refine LCt.ListComp_T (F₀ := by k_asm) (by with_unfolding_all rfl) (by decide) (by rfl) (by decide) (by rfl) ?_)))
local macro_rules | `(tactic| walk_at "CompSrcT") => `(tactic| (refine LoopHere.out ?_))
theorem tup_news {h₀ h : Heap} {L a : Addr} {news : List (Addr × Obj)} {its : List Value} {n : Nat} (N : News h₀ L h news) (hm : (a, ({ cls := .type "tuple", data := .seq its.toArray n } : Obj)) ∈ news) : IsTup h a its.toArray := ⟨_, (N _ hm).1, rfl, _, rfl⟩
local macro_rules | `(tactic| walk_at "subscriptTail") => `(tactic| (k_here; (with_reducible show wpAny _ _ (subscriptTail _ _ (Value.ref _) (Value.int _ _)) _ _ _); k_dflt (refine' item_tupleT (tup_news (by k_asm) (by k_mem)) (by decide) (by decide) (by exact rfl) (by exact rfl) ?_)))
/-- a header's tuple: its place, name and value -/
abbrev HE := Addr × (Str × Tok) × (Str × Tok)
abbrev heV (e : HE) : Value := .ref e.1
abbrev heO (e : HE) : Addr × Obj := (e.1, { cls := .type "tuple", data := .seq #[.str e.2.1.1 e.2.1.2, .str e.2.2.1 e.2.2.2] })
def getF (nm : Str) (es : List HE) : List Str := (es.filter fun e => Txt.lower e.2.1.1 == nm).map (·.2.2.1)
theorem getF_snoc {nm : Str} {es : List HE} {i : Nat} {e : HE} (h : es[i]? = some e) : getF nm (es.take (i + 1)) = if (Txt.lower e.2.1.1 == nm) = true then getF nm (es.take i) ++ [e.2.2.1] else getF nm (es.take i) := by
  unfold getF
  rw [List.take_add_one, h]
  simp only [Option.toList, List.filter_append, List.map_append]
  by_cases hc : (Txt.lower e.2.1.1 == nm) = true
  · rw [if_pos hc, List.filter_cons, if_pos hc]; rfl
  · rw [if_neg hc, List.filter_cons, if_neg hc]; simp
def GetP (x : Str) (es : List HE) (news : List (Addr × Obj)) (v : Value) (news' : List (Addr × Obj)) : Prop :=
  ∃ (l' : Addr) (vs' : List Value) (k' : Nat), v = .ref l' ∧ news' = (l', W.listOf vs'.toArray k') :: news ∧ StrsAre vs' (getF (Txt.lower x) es) ∧ ∀ p ∈ news, p.1 ≠ l'
theorem off1_mem {D : Addr} : ∀ {l : List (Addr × Obj)}, Off1 D l → ∀ p ∈ l, p.1 ≠ D
  | [], _, _, h => nomatch h
  | _ :: _, x, p, h => by
    rcases List.mem_cons.mp h with rfl | h
    · exact x.1
    · exact off1_mem x.2 p h
theorem get_ret {x : Str} {es : List HE} {news all : List (Addr × Obj)} {D : Addr} {ys : List Value} {k' : Nat} {h₀ h' : Heap} {L : Addr} {m : Str → Option Value} {s : Shared} {Q : Value → Shared → Prop} {tk' : Nat}
    (hret : ∀ v news' h' tk', Fr h₀ L h' m → News h₀ L h' news' → GetP x es news v news' → Q v { s with heap := h', toks := tk' })
    (F : Fr h₀ L h' m) (N : News h₀ L h' all) (h1 : (D, W.listOf ys.toArray k') ∈ all) (hs : ∀ p ∈ news, p ∈ all) (hy : StrsAre ys (getF (Txt.lower x) es)) (hne : ∀ p ∈ news, p.1 ≠ D) : Q (.ref D) { s with heap := h', toks := tk' } := by
  refine hret _ _ h' tk' F (fun p hp => N p ?_) ⟨D, ys, k', rfl, rfl, hy, hne⟩
  rcases List.mem_cons.mp hp with e | hp
  · exact e ▸ h1
  · exact hs p hp
theorem getall (w : World) (x : Str) (tx t : Tok) (ax ad al : Addr) (es : List HE) (k : Nat) (news : List (Addr × Obj))
    (hxl : x.length ≤ 5592405) (hx : ∀ p, p < (Txt.lower x).cps.size → NoHit nameCode ((Txt.lower x).cps.getD p 0)) (hxs : (Txt.lower x).cps.size < 2 ^ 63) (hel : ∀ e ∈ es, e.2.1.1.length ≤ 5592405) (hes : es.length ≤ sizeLine) (hml : (al, W.listOf (es.map heV).toArray k) ∈ news) (hmx : (ax, instObj 238 ad) ∈ news) (hmd : (ad, hdDict w.params al t) ∈ news) (hmt : ∀ e ∈ es, heO e ∈ news) :
    Spec w 177 6 [.ref ax, .str x tx] news (GetP x es news) := by
  have zz : PySem.Challenge.rw_sw0076_02 = PySem.Challenge.rw_sw0076_02 := rfl
  revert zz
  unfold Spec
  k_fill
  intro zz p loose mean mg mb dp un gd cn cs a' ccd cl outer A₀ base h₀ L m s Q E hk B F X N T C1 C2 hd hu hret
  clear zz
  refine wpAny_call ?_
  k_dflt (refine' code_defC ?k1 ?k2 ?k3 ?k4 ?k5 ?kA ?kF ?kK ?k6 ?k7 ?k8 ?k9 ?kB ?kD ?_ ?c2 ?c3 ?c4; (case kA => exact rfl); (case kF => exact rfl); (case kK => first | exact rfl | assumption); (case k1 => k_asm); (case k2 => k_asm); (case k3 => k_asm); (case k4 => k_asm); (case k5 => k_asm); (case k6 => k_is); (case k7 => k_is); (case k8 => ktr_room); (case k9 => first | exact BindsTo.of_eq rfl | exact binds_K (by k_in) rfl (by k_is) rfl rfl rfl); (case kB => exact rfl); (case kD => decide +kernel); (case c2 => exact rfl); (case c3 => exact rfl); (case c4 => exact rfl); k_whole; intro g' L' h' tk' cells' FG' F' N' Y' B' X' T' l1; (try k_lt l1); k_cells Y'; (try simp only [List.cons_append, List.nil_append] at N'); (try dsimp only); (try k_lift B'); (try k_fold))
  k_steps
  have hsz : (es.map heV).toArray.size = es.length := by simp
  refine LoopHere.mk ?_
  refine' LCt.CompSrcT.ledger rfl ?F ?N ?hm ?hsz (fun g => ?_)
  case F => k_asm
  case N => k_asm
  case hm => k_mem
  case hsz => rw [hsz]; exact hes
  rename News _ _ _ (_ :: _) => Nc
  have hoff := lt_size Nc
  refine restT_inv (fun i ys news' => news' = _ ∧ ∃ zs, StrsAre ys zs ∧ zs = getF (Txt.lower x) (es.take i)) ?turn ?fin _ 0 [] _ (Nat.zero_add _) ⟨rfl, [], .nil, rfl⟩
  case turn =>
    rintro i ys news' v I oI C oC D m₂ h tk E' hi ⟨rfl, zs, hys, hzs⟩ hP hns hkv F9 N9 o9 hne
    obtain ⟨e, he, rfl⟩ : ∃ e, es[i]? = some e ∧ v = heV e := by
      have : (es.map heV).toArray[i]? = some v := hP
      rw [List.getElem?_toArray, List.getElem?_map] at this
      cases h : es[i]? with
      | none => rw [h] at this; cases this
      | some e => rw [h] at this; exact ⟨e, rfl, (Option.some.inj this).symm⟩
    have hte := hmt e (List.mem_of_getElem? he)
    have hle := hel e (List.mem_of_getElem? he)
    clear hP
    obtain ⟨T, ⟨nm, t1⟩, ⟨vl, t2⟩⟩ := e
    replace hkv : m₂ (Str.ofString "kv") = some (.ref T) := hkv
    replace hte : (T, ({ cls := .type "tuple", data := .seq [Value.str nm t1, .str vl t2].toArray } : Obj)) ∈ _ := hte
    replace hle : nm.length ≤ 5592405 := hle
    have hsn := getF_snoc (nm := Txt.lower x) he
    k_steps
    · rename (_ == _) = true => hc
      rw [if_pos hc] at hsn
      refine CompEnd.intro (by k_asm) (by k_asm) _ (fun _ h => h) o9 ?_ ⟨rfl, _, strs_snoc hys, ?_⟩
      · exact .inr ⟨_, by k_mem, rfl, _, rfl⟩
      · rw [hsn, hzs]
    · rename (_ == _) = false => hc
      rw [if_neg (by rw [hc]; exact Bool.false_ne_true)] at hsn
      refine CompEnd.intro (by k_asm) (by k_asm) _ (fun _ h => h) o9 ?_ ⟨rfl, _, hys, ?_⟩
      · exact .inr ⟨_, by k_mem, rfl, _, rfl⟩
      · rw [hsn, hzs]
  case fin =>
    rintro ys news' ⟨rfl, zs, hys, hzs⟩
    rw [hsz, List.take_length] at hzs
    subst hzs
    intro D9 h9 tk9 F9 N9 o9
    have hne9 := fun p hp => off1_mem o9 p (.tail _ hp)
    k_steps
    exact get_ret hret (by k_asm) (by with_reducible assumption) (by k_mem) (by walk_at "SUB") hys hne9
end
end
section
-- Law0
set_option maxHeartbeats 4000000
/-- as Spec, where the script stands in the base -/
def SpecS (w : World) (f : Addr) (d : Nat) (ls : Addr) (svs : List Value) (vs : List Value) (news : List (Addr × Obj)) (Post : Value → List (Addr × Obj) → Prop) : Prop :=
  ∀ (p : Program) (loose : List Str) (mean : ExcName → Option Value) (mg mb : Str → Option Value)
    (dp un : Nat) (gd : Option (List Code)) (cn : Str) (cs : Scope) (a : Addr) (ccd : Value) (cl : List (Str × Addr)) (outer : List Env) (A₀ : Around) (base h₀ : Heap) (L : Addr) (m : Str → Option Value) (s : Shared) (Q E : Value → Shared → Prop),
    cs.kind = .function → Below A₀ base outer h₀ → Fr h₀ L s.heap m → (hd02.heap_1 w.params).In h₀ → News h₀ L s.heap news → Top p loose mean mg mb h₀ →
    CodeHd base 72 68 → CodeHd base 79 75 → base.IsList ls svs.toArray →
    dp + d < recursionLimit → un + 8 * d < cLine →
    (∀ v news' h' tk', Fr h₀ L h' m → News h₀ L h' news' → Post v news' → Q v { s with heap := h', toks := tk' }) →
    wpAny (model PySem.Challenge.rw_sw0076_02.row.prog w) (ktrTop dp un gd cn cs L a ccd cl outer) (call (.ref f) vs) Q E s
theorem SpecS.use {w : World} {f : Addr} {d : Nat} {ls : Addr} {svs vs : List Value} {news : List (Addr × Obj)} {Post : Value → List (Addr × Obj) → Prop} (S : SpecS w f d ls svs vs news Post)
    {p : Program} {loose : List Str} {mean : ExcName → Option Value} {mg mb : Str → Option Value}
    {dp un : Nat} {gd : Option (List Code)} {cn : Str} {cs : Scope} {a : Addr} {ccd : Value} {cl : List (Str × Addr)} {outer : List Env} {A₀ : Around} {base h₀ : Heap} {L : Addr} {m : Str → Option Value} {s : Shared} {Q E : Value → Shared → Prop}
    (hk : cs.kind = .function) (B : Below A₀ base outer h₀) (F : Fr h₀ L s.heap m) (X : (hd02.heap_1 w.params).In h₀) (N : News h₀ L s.heap news) (T : Top p loose mean mg mb h₀)
    (C1 : CodeHd base 72 68) (C2 : CodeHd base 79 75) (hls : base.IsList ls svs.toArray) (hd : dp + d < recursionLimit) (hu : un + 8 * d < cLine)
    (ret : ∀ v news' h' tk', Fr h₀ L h' m → News h₀ L h' news' → Post v news' → Q v { s with heap := h', toks := tk' }) :
    wpAny (model PySem.Challenge.rw_sw0076_02.row.prog w) (ktrTop dp un gd cn cs L a ccd cl outer) (call (.ref f) vs) Q E s :=
  S p loose mean mg mb dp un gd cn cs a ccd cl outer A₀ base h₀ L m s Q E hk B F X N T C1 C2 hls hd hu ret
/-- a new list of ints -/
def ListP (xs : List Int) (news : List (Addr × Obj)) (v : Value) (news' : List (Addr × Obj)) : Prop :=
  ∃ (l' : Addr) (vs' : List Value) (k' : Nat), v = .ref l' ∧ news' = (l', W.listOf vs'.toArray k') :: news ∧ IntsAre vs' xs ∧ ∀ p ∈ news, p.1 < l'
theorem list_ret {xs : List Int} {news all : List (Addr × Obj)} {D : Addr} {ys : List Value} {k' : Nat} {h₀ h' : Heap} {L : Addr} {m : Str → Option Value} {s : Shared} {Q : Value → Shared → Prop} {tk' : Nat}
    (hret : ∀ v news' h' tk', Fr h₀ L h' m → News h₀ L h' news' → ListP xs news v news' → Q v { s with heap := h', toks := tk' })
    (F : Fr h₀ L h' m) (N : News h₀ L h' all) (h1 : (D, W.listOf ys.toArray k') ∈ all) (hs : ∀ p ∈ news, p ∈ all) (hy : IntsAre ys xs) (hne : ∀ p ∈ news, p.1 < D) : Q (.ref D) { s with heap := h', toks := tk' } := by
  refine hret _ _ h' tk' F (fun p hp => N p ?_) ⟨D, ys, k', rfl, rfl, hy, hne⟩
  rcases List.mem_cons.mp hp with e | hp
  · exact e ▸ h1
  · exact hs p hp
end
section
local macro_rules | `(tactic| k_room) => `(tactic| ktr_room)
local macro_rules | `(tactic| walk_at "MAPM") => `(tactic| (intro y hy hn; (repeat (obtain ⟨h1, hn⟩ := nc_cons hn)); simp only [*, ↓reduceIte]))
local macro_rules | `(tactic| walk_at "GROW") => `(tactic| (refine' turn_map (Led := fun c => growLed _ c) (_, _) (by k_asm) (by k_asm) (by exact List.forall_mem_cons.mpr ⟨by k_mem, by walk_at "SUB"⟩) (by walk_at "MAPM") ?J))
local macro_rules | `(tactic| walk_at "FORV") => `(tactic| (k_here; (rename Fr _ _ _ _ => lF'); (with_unfolding_all refine' For_invVF lF' (by exact rfl) (by exact rfl) ?_; k_whole)))
local macro_rules | `(tactic| walk_at "exec For Name Tuple cons nil") => `(tactic| walk_at "FORV")
local macro_rules | `(tactic| walk_at "exec For Name Call cons nil") => `(tactic| walk_at "FORV")
local macro_rules | `(tactic| walk_at "exec Assign cons ListComp") => `(tactic| (k_here; k_dflt (first
  | refine wpAny_Assign_Name ?_ (by with_unfolding_all rfl)
  | refine LCg.Assign_ListComp_U (F₀ := by k_asm) (by rfl) (by with_unfolding_all rfl) (by with_unfolding_all rfl) (by decide) (by rfl) (by decide) (by rfl) (by rfl) (by rfl) ?_)))
local macro_rules | `(tactic| walk_at "eval ListComp") => `(tactic| (k_here; first
  | ((with_reducible show wpAny _ _ (eval (Expr.ListComp _ [Comprehension.mk _ _ [] _] _ _) _) _ _ _); k_dflt (refine LCg.ListComp_U (F₀ := by k_asm) (by with_unfolding_all rfl) (by decide) (by rfl) (by decide) (by rfl) ?_))
  | k_dflt (refine LCt.ListComp_T (F₀ := by k_asm) (by with_unfolding_all rfl) (by decide) (by rfl) (by decide) (by rfl) ?_)))
local macro_rules | `(tactic| walk_at "CompSrcT") => `(tactic| (refine LoopHere.out ?_))
local macro_rules | `(tactic| walk_at "CompSrc") => `(tactic| (refine LoopHere.out ?_))
local macro_rules | `(tactic| walk_at "pyIter ref") => `(tactic| ((with_reducible show wpAny _ _ (pyIter (Value.ref _)) (fun it s₂ => LoopAtV _ _ _ _ _ _ _ _ _ it s₂) _ _); refine LoopHere.out ?_))
section
-- Worths
local macro_rules | `(tactic| walk_at "ZZ") => `(tactic| skip)
set_option maxHeartbeats 4000000
def halfN : Int := 5 * 10 ^ 29
def worthF (ns : List Int) (i : Nat) : Int := 2 ^ i + (ns.getD i 0 + halfN).fmod (2 * halfN) - halfN
theorem worth_in {ns : List Int} {i : Nat} : (2 : Int) ^ (0 + (i : Int)).toNat + (ns.getD (0 + (i : Int)).toNat 0 + 5 * 10 ^ Int.toNat 29).fmod (2 * (5 * 10 ^ Int.toNat 29)) - 5 * 10 ^ Int.toNat 29 = worthF ns i := by
  rw [Int.zero_add, Int.toNat_natCast]; rfl
theorem worth_out {ns : List Int} {i : Nat} (h : ¬ (0 : Int) + (i : Int) < (ns.length : Int)) : (2 : Int) ^ (0 + (i : Int)).toNat + ((0 : Int) + 5 * 10 ^ Int.toNat 29).fmod (2 * (5 * 10 ^ Int.toNat 29)) - 5 * 10 ^ Int.toNat 29 = worthF ns i := by
  rw [Int.zero_add, Int.toNat_natCast]
  unfold worthF
  rw [List.getD_eq_getElem?_getD, List.getElem?_eq_none (by omega)]; rfl
theorem worths (w : World) (ls : Addr) (svs : List Value) (ns : List Int) (hns : IntsAre svs ns) (hlen : ns.length ≤ 63) (news : List (Addr × Obj)) :
    SpecS w 249 3 ls svs [.ref ls] news (ListP ((List.range 16).map (worthF ns)) news) := by
  have zz : PySem.Challenge.rw_sw0076_02 = PySem.Challenge.rw_sw0076_02 := rfl
  revert zz
  unfold SpecS
  k_fill
  intro zz p loose mean mg mb dp un gd cn cs a' ccd cl outer A₀ base h₀ L m s Q E hk B F X N T C1 C2 hls hd hu hret
  clear zz
  refine wpAny_call ?_
  k_dflt cell_enter
  k_steps
  refine LoopHere.mk ?_
  refine' grow_range (n := 16) [Str.ofString "x"] (worthF ns) rfl (by assumption) (by rfl) (by rfl) (by k_asm) (by k_asm) ?hoff ?done ?turn
  case hoff => k_all
  case turn =>
    intro i t vs k c2 h tk tl hi hvs hoff hsub F9 N9
    have F9 := open1 F9 rfl
    have hvl : vs.length ≤ sizeLine := by
      have h1 := hvs.length
      simp at h1
      rw [h1]
      exact Nat.le_trans (Nat.le_of_lt hi) (by decide)
    k_steps
    all_goals first
      | exact hvl
      | (walk_at "GROW"; refine grow_snoc hvs ?_; first | with_reducible exact worth_in | with_reducible exact worth_out (by assumption))
  case done =>
    intro vs k c2 u h tk hvs F9 N9
    have F9 := open1 F9 rfl
    k_steps
    refine' list_ret hret ?F ?N ?M ?S hvs ?L
    case F => k_asm
    case N => with_reducible assumption
    case M => exact .head _
    case S => walk_at "SUB"
    case L => exact allLt_all (by assumption)
end
section
-- Rows
local macro_rules | `(tactic| walk_at "ZZ") => `(tactic| skip)
set_option maxHeartbeats 4000000
local macro_rules | `(tactic| walk_at "exec For Name Subscript cons nil") => `(tactic| ((with_reducible rename News _ _ _ _ => nN); (have l8 := lt_size nN); (try k_lt l8); walk_at "FORV"))
theorem xor16 {r z : Int} (h : 0 ≤ r ∧ r < 16) : 0 ≤ Builtin.bitXor r (z.fmod 16) ∧ Builtin.bitXor r (z.fmod 16) < 16 := by
  have h1 : 0 ≤ z.fmod 16 := Int.fmod_nonneg_of_pos _ (by decide)
  have h2 : z.fmod 16 < 16 := Int.fmod_lt_of_pos _ (by decide)
  have key : ∀ a, a < 16 → ∀ b, b < 16 → 0 ≤ Builtin.bitXor (a : Nat) (b : Nat) ∧ Builtin.bitXor (a : Nat) (b : Nat) < 16 := by decide +kernel
  have e1 : r = ((r.toNat : Nat) : Int) := by omega
  have e2 : z.fmod 16 = (((z.fmod 16).toNat : Nat) : Int) := by omega
  rw [e1, e2]
  exact key _ (by omega) _ (by omega)
/-- a new list of n small ints -/
def RowsP (n : Nat) (news : List (Addr × Obj)) (v : Value) (news' : List (Addr × Obj)) : Prop :=
  ∃ xs : List Int, xs.length = n ∧ (∀ z ∈ xs, 0 ≤ z ∧ z < 16) ∧ ListP xs news v news'
theorem row0 {i : Nat} (h : i < 3) : 0 ≤ ([6, 11, 9] : List Int).getD (0 + (i : Int)).toNat 0 ∧ ([6, 11, 9] : List Int).getD (0 + (i : Int)).toNat 0 < 16 := by
  have h4 : i = 0 ∨ i = 1 ∨ i = 2 := by omega
  rcases h4 with rfl | rfl | rfl <;> decide
theorem rows (w : World) (ls : Addr) (svs : List Value) (ns : List Int) (hns : IntsAre svs ns) (hlen : ns.length ≤ 63) (news : List (Addr × Obj)) :
    SpecS w 256 3 ls svs [.ref ls] news (RowsP 3 news) := by
  have zz : PySem.Challenge.rw_sw0076_02 = PySem.Challenge.rw_sw0076_02 := rfl
  revert zz
  unfold SpecS
  k_fill
  intro zz p loose mean mg mb dp un gd cn cs a' ccd cl outer A₀ base h₀ L m s Q E hk B F X N T C1 C2 hls hd hu hret
  clear zz
  refine wpAny_call ?_
  k_dflt cell_enter
  k_steps
  refine LoopHere.mk ?_
  refine' upd_range (n := 3) [Str.ofString "row", Str.ofString "x"] (fun n zs => zs.length = n ∧ ∀ z ∈ zs, 0 ≤ z ∧ z < 16) rfl (by assumption) (by rfl) (by rfl) (by k_asm) (by k_asm) ?hoff .nil ⟨rfl, fun _ h => nomatch h⟩ ?done ?turn
  case hoff => k_all
  case turn =>
    intro i t vs ys k c2 h tk tl hi hvs hJ hoff hsub F9 N9
    have F9 := open2 F9 rfl rfl
    k_steps
    refine LoopHere.mk ?_
    rename News _ _ _ ((_, { cls := Value.type "list", data := Data.seq (slicePick _ _ _ _) }) :: _) => Ns
    have hvl : vs.length ≤ sizeLine := by
      rw [hvs.length, hJ.1]
      exact Nat.le_trans (Nat.le_of_lt hi) (by decide)
    refine' acc_list (Str.ofString "row") (fun _ r => 0 ≤ r ∧ r < 16) rfl (by decide) (vs := (slicePick svs.toArray _ _ _).toList) ⟨_, (Ns _ (.head _)).1, rfl, _, rfl⟩ (hns.pick _ _ _) ?hlL (by k_asm) Ns rfl (row0 hi) ?done2 ?turn2
    case hlL => exact (Ns _ (.head _)).2.1
    case turn2 =>
      intro i2 z tz r tr h2 tk2 tl2 hz hr hsub2 F8 N8
      have hx := xor16 (z := z) hr
      k_steps
      refine' turn_map (Led := fun _ => []) () ?F ?N ?S ?M ?J
      case F => k_asm
      case N => k_asm
      case S => walk_at "SUB"
      case M => walk_at "MAPM"
      case J => exact ⟨_, _, rfl, hx⟩
    case done2 =>
      intro r t2 u2 h2 tk2 hr F8 N8
      k_steps
      all_goals first
        | exact hvl
        | (walk_at "GROW"; exact ⟨_, ints_snoc hvs, by simp [hJ.1], fun z hz => (List.mem_append.mp hz).elim (hJ.2 z) fun q => (List.mem_singleton.mp q) ▸ hr⟩)
  case done =>
    intro vs ys k c2 u h tk hvs hJ F9 N9
    have F9 := open2 F9 rfl rfl
    k_steps
    refine' list_ret (fun v n h t f g q => hret v n h t f g ⟨ys, hJ.1, hJ.2, q⟩) ?F ?N ?M ?S hvs ?L
    case F => k_asm
    case N => with_reducible assumption
    case M => exact .head _
    case S => walk_at "SUB"
    case L => exact allLt_all (by assumption)
end
section
-- Line
set_option maxHeartbeats 4000000
local macro_rules | `(tactic| walk_at "binaryOp Add str str") => `(tactic| (k_here; (refine SB.add ?_ ?_)))
local macro_rules | `(tactic| walk_at "inplaceOp Add str str") => `(tactic| (k_here; (refine SB.iadd ?_ ?_)))
local macro_rules | `(tactic| walk_at "TURN0") => `(tactic| (refine' turn_map (Led := fun _ => []) () (by k_asm) (by k_asm) (by walk_at "SUB") (by walk_at "MAPM") ?J))
def lineT (ws : List Int) (sg : List Str) (r : Int) : Nat → Str
  | 0 => Str.ofString "\"\"" ++ sg.getD 0 Str.empty
  | i + 1 => (if Builtin.bitAnd (Builtin.bitXor (ws.getD (i + 1) 0) (ws.getD i 0)) r ≠ 0 then lineT ws sg r i ++ Str.ofString "\"" else lineT ws sg r i) ++ sg.getD (i + 1) Str.empty
def lineF (ws : List Int) (sg : List Str) (r : Int) : Str := lineT ws sg r 15 ++ Txt.mul (Str.ofString "\"") (r.fdiv 8)
section
variable {ws : List Int} {sg : List Str} {r : Int} {i : Nat}
theorem line_yes (h : Builtin.bitAnd (Builtin.bitXor (ws.getD (1 + (i : Int)).toNat 0) (ws.getD (1 + (i : Int) - 1).toNat 0)) r ≠ 0) : lineT ws sg r i ++ Str.ofString "\"" ++ sg.getD (1 + (i : Int)).toNat Str.empty = lineT ws sg r (i + 1) := by
  have e1 : (1 + (i : Int)).toNat = i + 1 := by omega
  have e2 : (1 + (i : Int) - 1).toNat = i := by omega
  rw [e1, e2] at h
  rw [e1, lineT, if_pos h]
theorem line_no (h : Builtin.bitAnd (Builtin.bitXor (ws.getD (1 + (i : Int)).toNat 0) (ws.getD (1 + (i : Int) - 1).toNat 0)) r = 0) : lineT ws sg r i ++ sg.getD (1 + (i : Int)).toNat Str.empty = lineT ws sg r (i + 1) := by
  have e1 : (1 + (i : Int)).toNat = i + 1 := by omega
  have e2 : (1 + (i : Int) - 1).toNat = i := by omega
  rw [e1, e2] at h
  rw [e1, lineT, if_neg (by simpa using h)]
end
theorem mul_len {r : Int} (h : 0 ≤ r ∧ r < 16) : (Txt.mul (Str.ofString "\"") (r.fdiv 8)).length ≤ 1 := by
  have key : ∀ a, a < 16 → (Txt.mul (Str.ofString "\"") (((a : Nat) : Int).fdiv 8)).length ≤ 1 := by decide +kernel
  have e : r = ((r.toNat : Nat) : Int) := by omega
  rw [e]; exact key _ (by omega)
def StrP (x : Str) (news : List (Addr × Obj)) (v : Value) (news' : List (Addr × Obj)) : Prop := ∃ t, v = .str x t ∧ news' = news
theorem line (w : World) (r : Int) (tr : Tok) (hr : 0 ≤ r ∧ r < 16) (lw lg : Addr) (kw kg : Nat) (wvs gvs : List Value) (ws : List Int) (sg : List Str) (hws : IntsAre wvs ws) (hwl : ws.length = 16) (hsg : StrsAre gvs sg) (hgl : sg.length = 16)
    (hll : ∀ i, i < 16 → (lineT ws sg r i).length ≤ 1000) (hgs : ∀ i, (sg.getD i Str.empty).length ≤ 10) (news : List (Addr × Obj)) (hmw : (lw, W.listOf wvs.toArray kw) ∈ news) (hmg : (lg, W.listOf gvs.toArray kg) ∈ news) :
    Spec w 263 3 [.int r tr, .ref lw, .ref lg] news (StrP (lineF ws sg r) news) := by
  have zz : PySem.Challenge.rw_sw0076_02 = PySem.Challenge.rw_sw0076_02 := rfl
  revert zz
  unfold Spec
  k_fill
  intro zz p loose mean mg mb dp un gd cn cs a' ccd cl outer A₀ base h₀ L m s Q E hk B F X N T C1 C2 hd hu hret
  clear zz
  refine wpAny_call ?_
  k_dflt cell_enter
  have hline : 100000 ≤ sizeLine := by decide
  have hq1 : (Str.ofString "\"").length = 1 := rfl
  have hq2 : (Str.ofString "\"\"").length = 2 := rfl
  have hg0 := hgs (Int.toNat 0)
  k_steps
  · refine LoopHere.mk ?_
    refine' acc_range (n := 15) (Str.ofString "line") (fun i v => ∃ t, v = .str (lineT ws sg r i) t) rfl (by assumption) (by rfl) (by rfl) (by k_asm) (by k_asm) rfl ⟨_, rfl⟩ ?done ?turn
    case turn =>
      rintro i t v h tk tl hi ⟨tv, rfl⟩ hsub F9 N9
      have hL := hll i (by omega)
      have hmw9 := hsub _ hmw
      have hmg9 := hsub _ hmg
      have hg1 := hgs (1 + (i : Int)).toNat
      k_steps
      all_goals first
        | omega
        | (rw [Str.length_append]; omega)
        | (walk_at "TURN0"; with_reducible exact ⟨_, rfl, _, congrArg (Value.str · _) (line_yes (by assumption))⟩)
        | (walk_at "TURN0"; with_reducible exact ⟨_, rfl, _, congrArg (Value.str · _) (line_no (by assumption))⟩)
    case done =>
      rintro v u h tk ⟨tv, rfl⟩ F9 N9
      have hL := hll 15 (by omega)
      have hM := mul_len hr
      k_steps
      · exact hret _ _ _ _ (by k_asm) (by k_asm) ⟨_, rfl, rfl⟩
end
section
-- Walsh
set_option maxHeartbeats 4000000
def walshTurn (d : Nat) (xs : List Int) (v : Nat) : List Int := if v &&& d = 0 then (xs.set v (xs.getD v 0 + xs.getD (v + d) 0)).set (v + d) (xs.getD v 0 - xs.getD (v + d) 0) else xs
def walshIn (d : Nat) (n : Nat) (xs : List Int) : List Int := (List.range n).foldl (walshTurn d) xs
def walshF (xs : List Int) : List Int := [1, 2, 4, 8].foldl (fun xs d => walshIn d 16 xs) xs
theorem walshTurn_len (d : Nat) (xs : List Int) (v : Nat) : (walshTurn d xs v).length = xs.length := by unfold walshTurn; split <;> simp
theorem walshIn_len (d n : Nat) (xs : List Int) : (walshIn d n xs).length = xs.length := by
  unfold walshIn
  induction n with
  | zero => rfl
  | succ n ih => rw [List.range_succ, List.foldl_append]; simp [walshTurn_len, ih]
theorem walshIn_succ (d n : Nat) (xs : List Int) : walshIn d (n + 1) xs = walshTurn d (walshIn d n xs) n := by
  unfold walshIn; rw [List.range_succ, List.foldl_append]; rfl
theorem walsh_lt : ∀ j, j < 4 → ∀ v, v < 16 → v &&& (2 ^ j) = 0 → v + 2 ^ j < 16 := by decide
def walshJ (xs : List Int) (j : Nat) (ys : List Int) : Prop := ys = ([1, 2, 4, 8].take j).foldl (fun xs d => walshIn d 16 xs) xs ∧ ys.length = 16
theorem walshJ_succ {xs ys : List Int} {i : Nat} (hi : i < 4) (h : walshJ xs i ys) : walshJ xs (i + 1) (walshIn (2 ^ i) 16 ys) := by
  obtain ⟨h1, h2⟩ := h
  refine ⟨?_, (walshIn_len _ _ _).trans h2⟩
  have h4 : i = 0 ∨ i = 1 ∨ i = 2 ∨ i = 3 := by omega
  have e : ([1, 2, 4, 8] : List Nat).take (i + 1) = [1, 2, 4, 8].take i ++ [2 ^ i] := by rcases h4 with rfl | rfl | rfl | rfl <;> rfl
  rw [e, List.foldl_append, ← h1]; rfl
theorem walshJ_fin {xs ys : List Int} {n : Nat} (e : n = 4) (h : walshJ xs n ys) : ys = walshF xs := by
  subst e
  obtain ⟨h, _⟩ := h
  have e : ([1, 2, 4, 8] : List Nat).take 4 = [1, 2, 4, 8] := rfl
  rw [e] at h
  exact h
theorem band_nat (a b : Nat) : Builtin.bitAnd (0 + (a : Int)) (b : Int) = ((a &&& b : Nat) : Int) := by rw [Int.zero_add]; rfl
theorem walsh_turn {zs : List Int} {i d : Nat} (h : i &&& d = 0) : walshTurn d zs i = (zs.set (0 + (i : Int)).toNat (zs.getD (0 + (i : Int)).toNat 0 + zs.getD (0 + (i : Int) + (d : Int)).toNat 0)).set (0 + (i : Int) + (d : Int)).toNat (zs.getD (0 + (i : Int)).toNat 0 - zs.getD (0 + (i : Int) + (d : Int)).toNat 0) := by
  have e1 : (0 + (i : Int)).toNat = i := by omega
  have e2 : (0 + (i : Int) + (d : Int)).toNat = i + d := by omega
  rw [e1, e2, walshTurn, if_pos h]
theorem walsh_skip {zs : List Int} {i d : Nat} (h : ¬ i &&& d = 0) : walshTurn d zs i = zs := if_neg h
theorem walsh (w : World) (lx : Addr) (xvs : List Value) (kx : Nat) (xs : List Int) (hxs : IntsAre xvs xs) (hlen : xs.length = 16) (news : List (Addr × Obj)) (hm : (lx, W.listOf xvs.toArray kx) ∈ news) (out : List Int) (hout : ∀ ys, walshJ xs 4 ys → ys = out) :
    Spec w 270 3 [.ref lx] news (ListP out news) := by
  have zz : PySem.Challenge.rw_sw0076_02 = PySem.Challenge.rw_sw0076_02 := rfl
  revert zz
  unfold Spec
  k_fill
  intro zz p loose mean mg mb dp un gd cn cs a' ccd cl outer A₀ base h₀ L m s Q E hk B F X N T C1 C2 hd hu hret
  clear zz
  refine wpAny_call ?_
  k_dflt cell_enter
  k_steps
  refine LoopHere.mk ?_
  rename News _ _ _ (_ :: (_, W.listOf _ _) :: _) => Nx
  refine' upd_tup (tvs := [.int 1 _, .int 2 _, .int 4 _, .int 8 _]) [Str.ofString "v", Str.ofString "first", Str.ofString "second"] (walshJ xs) rfl ⟨_, (Nx _ (.head _)).1, rfl, _, rfl⟩ ?hL ?hl (by k_asm) (news_swap Nx) ?hoff hxs ⟨rfl, hlen⟩ ?done ?turn
  case hL => exact (Nx _ (.head _)).2.1
  case hl => exact Nat.ne_of_gt (by assumption)
  case hoff => exact List.forall_mem_cons.mpr ⟨Nat.ne_of_gt (by assumption), by k_all⟩
  case turn =>
    clear Nx
    intro i v vs ys k c2 h tk tl hi hv hvs hJ hoff hsub F9 N9
    replace F9 := open3 F9 rfl rfl rfl
    have hi4 : i < 4 := hi
    obtain ⟨td, rfl⟩ : ∃ td, v = .int ((2 ^ i : Nat) : Int) td := by
      have h4 : i = 0 ∨ i = 1 ∨ i = 2 ∨ i = 3 := by omega
      rcases h4 with rfl | rfl | rfl | rfl <;> exact ⟨_, (Option.some.inj hv).symm⟩
    clear hv hi
    have hdl := walsh_lt i hi4
    have hJs : walshJ xs (i + 1) (walshIn (2 ^ i) 16 ys) := walshJ_succ hi4 hJ
    generalize 2 ^ i = d at hdl hJs F9 ⊢
    k_steps
    refine LoopHere.mk ?_
    refine' upd_range (n := 16) [Str.ofString "first", Str.ofString "second"] (fun n zs => zs = walshIn d n ys ∧ zs.length = 16) rfl (by assumption) (by rfl) (by rfl) (by k_asm) (by k_asm) hoff hvs ⟨rfl, hJ.2⟩ ?done2 ?turn2
    case turn2 =>
      intro i2 t2 vs2 zs k2 c3 h2 tk2 tl2 hi2 hvs2 hJ2 hoff2 hsub2 F8 N8
      replace F8 := open2 F8 rfl rfl
      by_cases hb : i2 &&& d = 0
      · have hlt := hdl i2 hi2 hb
        have hba : Builtin.bitAnd (0 + (i2 : Int)) (d : Int) = 0 := by rw [band_nat, hb]; rfl
        have hz := hJ2.2
        k_steps
        all_goals first
          | (exact absurd hba (by assumption))
          | (walk_at "GROW"; refine ⟨_, by with_reducible assumption, ?_, ?_⟩; (rw [walshIn_succ, ← hJ2.1]; exact (walsh_turn hb).symm); (simp [hz]))
      · have hba : ¬ Builtin.bitAnd (0 + (i2 : Int)) (d : Int) = 0 := by rw [band_nat]; omega
        k_steps
        all_goals first
          | (exact absurd (by assumption) hba)
          | (walk_at "GROW"; refine ⟨_, hvs2, ?_, hJ2.2⟩; (rw [walshIn_succ, ← hJ2.1]; exact (walsh_skip hb).symm))
    case done2 =>
      intro vs2 zs k2 c3 u2 h2 tk2 hvs2 hJ2 F8 N8
      replace F8 := open2 F8 rfl rfl
      rw [← hJ2.1] at hJs
      k_steps
      all_goals first
        | (walk_at "GROW"; exact ⟨_, hvs2, hJs⟩)
  case done =>
    intro vs ys k c2 u h tk hvs hJ F9 N9
    replace F9 := open3 F9 rfl rfl rfl
    have hfin := hout ys hJ
    clear hJ
    subst hfin
    k_steps
    refine' list_ret hret ?F ?N ?M ?S hvs ?L
    case F => k_asm
    case N => with_reducible assumption
    case M => exact .head _
    case S => walk_at "SUB"
    case L => exact allLt_all (by assumption)
end
section
-- Facts
set_option maxHeartbeats 4000000
def wordsL : List Int := (List.range 16).map wordF
def signsL : List Str := (List.range 16).map signF
theorem of16 {P : Int → Prop} (h : ∀ a, a < 16 → P ((a : Nat) : Int)) : ∀ r : Int, 0 ≤ r ∧ r < 16 → P r := fun r hr => by
  have e : r = ((r.toNat : Nat) : Int) := by omega
  rw [e]; exact h _ (by omega)
theorem line_len : ∀ r : Int, 0 ≤ r ∧ r < 16 → ∀ i, i < 16 → (lineT wordsL signsL r i).length ≤ 1000 := of16 (by decide +kernel)
theorem sign_len : ∀ i, (signsL.getD i Str.empty).length ≤ 10 := fun i => by
  by_cases h : i < 16
  · have key : ∀ i, i < 16 → (signsL.getD i Str.empty).length ≤ 10 := by decide +kernel
    exact key i h
  · rw [List.getD_eq_getElem?_getD, List.getElem?_eq_none (by simp [signsL]; omega)]; decide
theorem strip_ok : ∀ r : Int, 0 ≤ r ∧ r < 16 → StripOk (lineF wordsL signsL r) := of16 (by unfold StripOk; decide +kernel)
/-- what the shorn line of a row shows -/
def leftF (r : Int) : Str := stripF (lineF wordsL signsL r)
theorem left_both : ∀ a, a < 16 → leftF ((a : Nat) : Int) = Txt.join (Str.ofString "") (signsL.filter fun g => Txt.contains (leftF ((a : Nat) : Int)) g) ∧ ((signsL.filter fun g => Txt.contains (leftF ((a : Nat) : Int)) g).map (·.length)).sum + (signsL.filter fun g => Txt.contains (leftF ((a : Nat) : Int)) g).length ≤ 1048576 := by decide +kernel
theorem left_join : ∀ r : Int, 0 ≤ r ∧ r < 16 → leftF r = Txt.join (Str.ofString "") (signsL.filter fun g => Txt.contains (leftF r) g) := of16 fun a h => (left_both a h).1
theorem left_sum : ∀ r : Int, 0 ≤ r ∧ r < 16 → ((signsL.filter fun g => Txt.contains (leftF r) g).map (·.length)).sum + (signsL.filter fun g => Txt.contains (leftF r) g).length ≤ 1048576 := of16 fun a h => (left_both a h).2
end
section
-- Pois
set_option maxHeartbeats 4000000
theorem walsh_len (xs : List Int) : (walshF xs).length = xs.length := by
  unfold walshF
  simp only [List.foldl_cons, List.foldl_nil, walshIn_len]
/-- minus one to the number of the bits that two words share -/
def sgn (u v : Nat) : Int := if ((u &&& v) % 2 + (u &&& v) / 2 % 2 + (u &&& v) / 4 % 2 + (u &&& v) / 8 % 2) % 2 = 0 then 1 else -1
theorem walsh_d1 (a0 a1 a2 a3 a4 a5 a6 a7 a8 a9 a10 a11 a12 a13 a14 a15 : Int) : walshIn 1 16 [a0, a1, a2, a3, a4, a5, a6, a7, a8, a9, a10, a11, a12, a13, a14, a15] = [a0 + a1, a0 - a1, a2 + a3, a2 - a3, a4 + a5, a4 - a5, a6 + a7, a6 - a7, a8 + a9, a8 - a9, a10 + a11, a10 - a11, a12 + a13, a12 - a13, a14 + a15, a14 - a15] := by kernel_rfl
theorem walsh_d2 (a0 a1 a2 a3 a4 a5 a6 a7 a8 a9 a10 a11 a12 a13 a14 a15 : Int) : walshIn 2 16 [a0, a1, a2, a3, a4, a5, a6, a7, a8, a9, a10, a11, a12, a13, a14, a15] = [a0 + a2, a1 + a3, a0 - a2, a1 - a3, a4 + a6, a5 + a7, a4 - a6, a5 - a7, a8 + a10, a9 + a11, a8 - a10, a9 - a11, a12 + a14, a13 + a15, a12 - a14, a13 - a15] := by kernel_rfl
theorem walsh_d4 (a0 a1 a2 a3 a4 a5 a6 a7 a8 a9 a10 a11 a12 a13 a14 a15 : Int) : walshIn 4 16 [a0, a1, a2, a3, a4, a5, a6, a7, a8, a9, a10, a11, a12, a13, a14, a15] = [a0 + a4, a1 + a5, a2 + a6, a3 + a7, a0 - a4, a1 - a5, a2 - a6, a3 - a7, a8 + a12, a9 + a13, a10 + a14, a11 + a15, a8 - a12, a9 - a13, a10 - a14, a11 - a15] := by kernel_rfl
theorem walsh_d8 (a0 a1 a2 a3 a4 a5 a6 a7 a8 a9 a10 a11 a12 a13 a14 a15 : Int) : walshIn 8 16 [a0, a1, a2, a3, a4, a5, a6, a7, a8, a9, a10, a11, a12, a13, a14, a15] = [a0 + a8, a1 + a9, a2 + a10, a3 + a11, a4 + a12, a5 + a13, a6 + a14, a7 + a15, a0 - a8, a1 - a9, a2 - a10, a3 - a11, a4 - a12, a5 - a13, a6 - a14, a7 - a15] := by kernel_rfl
theorem walsh_all (a0 a1 a2 a3 a4 a5 a6 a7 a8 a9 a10 a11 a12 a13 a14 a15 : Int) : walshF [a0, a1, a2, a3, a4, a5, a6, a7, a8, a9, a10, a11, a12, a13, a14, a15] = [(((a0 + a1) + (a2 + a3)) + ((a4 + a5) + (a6 + a7))) + (((a8 + a9) + (a10 + a11)) + ((a12 + a13) + (a14 + a15))), (((a0 - a1) + (a2 - a3)) + ((a4 - a5) + (a6 - a7))) + (((a8 - a9) + (a10 - a11)) + ((a12 - a13) + (a14 - a15))), (((a0 + a1) - (a2 + a3)) + ((a4 + a5) - (a6 + a7))) + (((a8 + a9) - (a10 + a11)) + ((a12 + a13) - (a14 + a15))), (((a0 - a1) - (a2 - a3)) + ((a4 - a5) - (a6 - a7))) + (((a8 - a9) - (a10 - a11)) + ((a12 - a13) - (a14 - a15))), (((a0 + a1) + (a2 + a3)) - ((a4 + a5) + (a6 + a7))) + (((a8 + a9) + (a10 + a11)) - ((a12 + a13) + (a14 + a15))), (((a0 - a1) + (a2 - a3)) - ((a4 - a5) + (a6 - a7))) + (((a8 - a9) + (a10 - a11)) - ((a12 - a13) + (a14 - a15))), (((a0 + a1) - (a2 + a3)) - ((a4 + a5) - (a6 + a7))) + (((a8 + a9) - (a10 + a11)) - ((a12 + a13) - (a14 + a15))), (((a0 - a1) - (a2 - a3)) - ((a4 - a5) - (a6 - a7))) + (((a8 - a9) - (a10 - a11)) - ((a12 - a13) - (a14 - a15))), (((a0 + a1) + (a2 + a3)) + ((a4 + a5) + (a6 + a7))) - (((a8 + a9) + (a10 + a11)) + ((a12 + a13) + (a14 + a15))), (((a0 - a1) + (a2 - a3)) + ((a4 - a5) + (a6 - a7))) - (((a8 - a9) + (a10 - a11)) + ((a12 - a13) + (a14 - a15))), (((a0 + a1) - (a2 + a3)) + ((a4 + a5) - (a6 + a7))) - (((a8 + a9) - (a10 + a11)) + ((a12 + a13) - (a14 + a15))), (((a0 - a1) - (a2 - a3)) + ((a4 - a5) - (a6 - a7))) - (((a8 - a9) - (a10 - a11)) + ((a12 - a13) - (a14 - a15))), (((a0 + a1) + (a2 + a3)) - ((a4 + a5) + (a6 + a7))) - (((a8 + a9) + (a10 + a11)) - ((a12 + a13) + (a14 + a15))), (((a0 - a1) + (a2 - a3)) - ((a4 - a5) + (a6 - a7))) - (((a8 - a9) + (a10 - a11)) - ((a12 - a13) + (a14 - a15))), (((a0 + a1) - (a2 + a3)) - ((a4 + a5) - (a6 + a7))) - (((a8 + a9) - (a10 + a11)) - ((a12 + a13) - (a14 + a15))), (((a0 - a1) - (a2 - a3)) - ((a4 - a5) - (a6 - a7))) - (((a8 - a9) - (a10 - a11)) - ((a12 - a13) - (a14 - a15)))] := by
  unfold walshF
  simp only [List.foldl, walsh_d1, walsh_d2, walsh_d4, walsh_d8]
theorem dot_0 (a0 a1 a2 a3 a4 a5 a6 a7 a8 a9 a10 a11 a12 a13 a14 a15 : Int) : ((List.range 16).map fun v => sgn 0 v * ([a0, a1, a2, a3, a4, a5, a6, a7, a8, a9, a10, a11, a12, a13, a14, a15] : List Int).getD v 0).sum = (1) * a0 + ((1) * a1 + ((1) * a2 + ((1) * a3 + ((1) * a4 + ((1) * a5 + ((1) * a6 + ((1) * a7 + ((1) * a8 + ((1) * a9 + ((1) * a10 + ((1) * a11 + ((1) * a12 + ((1) * a13 + ((1) * a14 + ((1) * a15 + (0)))))))))))))))) := by kernel_rfl
theorem dot_1 (a0 a1 a2 a3 a4 a5 a6 a7 a8 a9 a10 a11 a12 a13 a14 a15 : Int) : ((List.range 16).map fun v => sgn 1 v * ([a0, a1, a2, a3, a4, a5, a6, a7, a8, a9, a10, a11, a12, a13, a14, a15] : List Int).getD v 0).sum = (1) * a0 + ((-1) * a1 + ((1) * a2 + ((-1) * a3 + ((1) * a4 + ((-1) * a5 + ((1) * a6 + ((-1) * a7 + ((1) * a8 + ((-1) * a9 + ((1) * a10 + ((-1) * a11 + ((1) * a12 + ((-1) * a13 + ((1) * a14 + ((-1) * a15 + (0)))))))))))))))) := by kernel_rfl
theorem dot_2 (a0 a1 a2 a3 a4 a5 a6 a7 a8 a9 a10 a11 a12 a13 a14 a15 : Int) : ((List.range 16).map fun v => sgn 2 v * ([a0, a1, a2, a3, a4, a5, a6, a7, a8, a9, a10, a11, a12, a13, a14, a15] : List Int).getD v 0).sum = (1) * a0 + ((1) * a1 + ((-1) * a2 + ((-1) * a3 + ((1) * a4 + ((1) * a5 + ((-1) * a6 + ((-1) * a7 + ((1) * a8 + ((1) * a9 + ((-1) * a10 + ((-1) * a11 + ((1) * a12 + ((1) * a13 + ((-1) * a14 + ((-1) * a15 + (0)))))))))))))))) := by kernel_rfl
theorem dot_3 (a0 a1 a2 a3 a4 a5 a6 a7 a8 a9 a10 a11 a12 a13 a14 a15 : Int) : ((List.range 16).map fun v => sgn 3 v * ([a0, a1, a2, a3, a4, a5, a6, a7, a8, a9, a10, a11, a12, a13, a14, a15] : List Int).getD v 0).sum = (1) * a0 + ((-1) * a1 + ((-1) * a2 + ((1) * a3 + ((1) * a4 + ((-1) * a5 + ((-1) * a6 + ((1) * a7 + ((1) * a8 + ((-1) * a9 + ((-1) * a10 + ((1) * a11 + ((1) * a12 + ((-1) * a13 + ((-1) * a14 + ((1) * a15 + (0)))))))))))))))) := by kernel_rfl
theorem dot_4 (a0 a1 a2 a3 a4 a5 a6 a7 a8 a9 a10 a11 a12 a13 a14 a15 : Int) : ((List.range 16).map fun v => sgn 4 v * ([a0, a1, a2, a3, a4, a5, a6, a7, a8, a9, a10, a11, a12, a13, a14, a15] : List Int).getD v 0).sum = (1) * a0 + ((1) * a1 + ((1) * a2 + ((1) * a3 + ((-1) * a4 + ((-1) * a5 + ((-1) * a6 + ((-1) * a7 + ((1) * a8 + ((1) * a9 + ((1) * a10 + ((1) * a11 + ((-1) * a12 + ((-1) * a13 + ((-1) * a14 + ((-1) * a15 + (0)))))))))))))))) := by kernel_rfl
theorem dot_5 (a0 a1 a2 a3 a4 a5 a6 a7 a8 a9 a10 a11 a12 a13 a14 a15 : Int) : ((List.range 16).map fun v => sgn 5 v * ([a0, a1, a2, a3, a4, a5, a6, a7, a8, a9, a10, a11, a12, a13, a14, a15] : List Int).getD v 0).sum = (1) * a0 + ((-1) * a1 + ((1) * a2 + ((-1) * a3 + ((-1) * a4 + ((1) * a5 + ((-1) * a6 + ((1) * a7 + ((1) * a8 + ((-1) * a9 + ((1) * a10 + ((-1) * a11 + ((-1) * a12 + ((1) * a13 + ((-1) * a14 + ((1) * a15 + (0)))))))))))))))) := by kernel_rfl
theorem dot_6 (a0 a1 a2 a3 a4 a5 a6 a7 a8 a9 a10 a11 a12 a13 a14 a15 : Int) : ((List.range 16).map fun v => sgn 6 v * ([a0, a1, a2, a3, a4, a5, a6, a7, a8, a9, a10, a11, a12, a13, a14, a15] : List Int).getD v 0).sum = (1) * a0 + ((1) * a1 + ((-1) * a2 + ((-1) * a3 + ((-1) * a4 + ((-1) * a5 + ((1) * a6 + ((1) * a7 + ((1) * a8 + ((1) * a9 + ((-1) * a10 + ((-1) * a11 + ((-1) * a12 + ((-1) * a13 + ((1) * a14 + ((1) * a15 + (0)))))))))))))))) := by kernel_rfl
theorem dot_7 (a0 a1 a2 a3 a4 a5 a6 a7 a8 a9 a10 a11 a12 a13 a14 a15 : Int) : ((List.range 16).map fun v => sgn 7 v * ([a0, a1, a2, a3, a4, a5, a6, a7, a8, a9, a10, a11, a12, a13, a14, a15] : List Int).getD v 0).sum = (1) * a0 + ((-1) * a1 + ((-1) * a2 + ((1) * a3 + ((-1) * a4 + ((1) * a5 + ((1) * a6 + ((-1) * a7 + ((1) * a8 + ((-1) * a9 + ((-1) * a10 + ((1) * a11 + ((-1) * a12 + ((1) * a13 + ((1) * a14 + ((-1) * a15 + (0)))))))))))))))) := by kernel_rfl
theorem dot_8 (a0 a1 a2 a3 a4 a5 a6 a7 a8 a9 a10 a11 a12 a13 a14 a15 : Int) : ((List.range 16).map fun v => sgn 8 v * ([a0, a1, a2, a3, a4, a5, a6, a7, a8, a9, a10, a11, a12, a13, a14, a15] : List Int).getD v 0).sum = (1) * a0 + ((1) * a1 + ((1) * a2 + ((1) * a3 + ((1) * a4 + ((1) * a5 + ((1) * a6 + ((1) * a7 + ((-1) * a8 + ((-1) * a9 + ((-1) * a10 + ((-1) * a11 + ((-1) * a12 + ((-1) * a13 + ((-1) * a14 + ((-1) * a15 + (0)))))))))))))))) := by kernel_rfl
theorem dot_9 (a0 a1 a2 a3 a4 a5 a6 a7 a8 a9 a10 a11 a12 a13 a14 a15 : Int) : ((List.range 16).map fun v => sgn 9 v * ([a0, a1, a2, a3, a4, a5, a6, a7, a8, a9, a10, a11, a12, a13, a14, a15] : List Int).getD v 0).sum = (1) * a0 + ((-1) * a1 + ((1) * a2 + ((-1) * a3 + ((1) * a4 + ((-1) * a5 + ((1) * a6 + ((-1) * a7 + ((-1) * a8 + ((1) * a9 + ((-1) * a10 + ((1) * a11 + ((-1) * a12 + ((1) * a13 + ((-1) * a14 + ((1) * a15 + (0)))))))))))))))) := by kernel_rfl
theorem dot_10 (a0 a1 a2 a3 a4 a5 a6 a7 a8 a9 a10 a11 a12 a13 a14 a15 : Int) : ((List.range 16).map fun v => sgn 10 v * ([a0, a1, a2, a3, a4, a5, a6, a7, a8, a9, a10, a11, a12, a13, a14, a15] : List Int).getD v 0).sum = (1) * a0 + ((1) * a1 + ((-1) * a2 + ((-1) * a3 + ((1) * a4 + ((1) * a5 + ((-1) * a6 + ((-1) * a7 + ((-1) * a8 + ((-1) * a9 + ((1) * a10 + ((1) * a11 + ((-1) * a12 + ((-1) * a13 + ((1) * a14 + ((1) * a15 + (0)))))))))))))))) := by kernel_rfl
theorem dot_11 (a0 a1 a2 a3 a4 a5 a6 a7 a8 a9 a10 a11 a12 a13 a14 a15 : Int) : ((List.range 16).map fun v => sgn 11 v * ([a0, a1, a2, a3, a4, a5, a6, a7, a8, a9, a10, a11, a12, a13, a14, a15] : List Int).getD v 0).sum = (1) * a0 + ((-1) * a1 + ((-1) * a2 + ((1) * a3 + ((1) * a4 + ((-1) * a5 + ((-1) * a6 + ((1) * a7 + ((-1) * a8 + ((1) * a9 + ((1) * a10 + ((-1) * a11 + ((-1) * a12 + ((1) * a13 + ((1) * a14 + ((-1) * a15 + (0)))))))))))))))) := by kernel_rfl
theorem dot_12 (a0 a1 a2 a3 a4 a5 a6 a7 a8 a9 a10 a11 a12 a13 a14 a15 : Int) : ((List.range 16).map fun v => sgn 12 v * ([a0, a1, a2, a3, a4, a5, a6, a7, a8, a9, a10, a11, a12, a13, a14, a15] : List Int).getD v 0).sum = (1) * a0 + ((1) * a1 + ((1) * a2 + ((1) * a3 + ((-1) * a4 + ((-1) * a5 + ((-1) * a6 + ((-1) * a7 + ((-1) * a8 + ((-1) * a9 + ((-1) * a10 + ((-1) * a11 + ((1) * a12 + ((1) * a13 + ((1) * a14 + ((1) * a15 + (0)))))))))))))))) := by kernel_rfl
theorem dot_13 (a0 a1 a2 a3 a4 a5 a6 a7 a8 a9 a10 a11 a12 a13 a14 a15 : Int) : ((List.range 16).map fun v => sgn 13 v * ([a0, a1, a2, a3, a4, a5, a6, a7, a8, a9, a10, a11, a12, a13, a14, a15] : List Int).getD v 0).sum = (1) * a0 + ((-1) * a1 + ((1) * a2 + ((-1) * a3 + ((-1) * a4 + ((1) * a5 + ((-1) * a6 + ((1) * a7 + ((-1) * a8 + ((1) * a9 + ((-1) * a10 + ((1) * a11 + ((1) * a12 + ((-1) * a13 + ((1) * a14 + ((-1) * a15 + (0)))))))))))))))) := by kernel_rfl
theorem dot_14 (a0 a1 a2 a3 a4 a5 a6 a7 a8 a9 a10 a11 a12 a13 a14 a15 : Int) : ((List.range 16).map fun v => sgn 14 v * ([a0, a1, a2, a3, a4, a5, a6, a7, a8, a9, a10, a11, a12, a13, a14, a15] : List Int).getD v 0).sum = (1) * a0 + ((1) * a1 + ((-1) * a2 + ((-1) * a3 + ((-1) * a4 + ((-1) * a5 + ((1) * a6 + ((1) * a7 + ((-1) * a8 + ((-1) * a9 + ((1) * a10 + ((1) * a11 + ((1) * a12 + ((1) * a13 + ((-1) * a14 + ((-1) * a15 + (0)))))))))))))))) := by kernel_rfl
theorem dot_15 (a0 a1 a2 a3 a4 a5 a6 a7 a8 a9 a10 a11 a12 a13 a14 a15 : Int) : ((List.range 16).map fun v => sgn 15 v * ([a0, a1, a2, a3, a4, a5, a6, a7, a8, a9, a10, a11, a12, a13, a14, a15] : List Int).getD v 0).sum = (1) * a0 + ((-1) * a1 + ((-1) * a2 + ((1) * a3 + ((-1) * a4 + ((1) * a5 + ((1) * a6 + ((-1) * a7 + ((-1) * a8 + ((1) * a9 + ((1) * a10 + ((-1) * a11 + ((1) * a12 + ((-1) * a13 + ((-1) * a14 + ((1) * a15 + (0)))))))))))))))) := by kernel_rfl
theorem walsh_16 (a0 a1 a2 a3 a4 a5 a6 a7 a8 a9 a10 a11 a12 a13 a14 a15 : Int) : ∀ u, u < 16 → (walshF [a0, a1, a2, a3, a4, a5, a6, a7, a8, a9, a10, a11, a12, a13, a14, a15]).getD u 0 = ((List.range 16).map fun v => sgn u v * ([a0, a1, a2, a3, a4, a5, a6, a7, a8, a9, a10, a11, a12, a13, a14, a15] : List Int).getD v 0).sum := by
  intro u hu
  rw [walsh_all]
  have h : u = 0 ∨ u = 1 ∨ u = 2 ∨ u = 3 ∨ u = 4 ∨ u = 5 ∨ u = 6 ∨ u = 7 ∨ u = 8 ∨ u = 9 ∨ u = 10 ∨ u = 11 ∨ u = 12 ∨ u = 13 ∨ u = 14 ∨ u = 15 := by omega
  rcases h with rfl | rfl | rfl | rfl | rfl | rfl | rfl | rfl | rfl | rfl | rfl | rfl | rfl | rfl | rfl | rfl
  · rw [dot_0]; simp only [List.getD_cons_succ, List.getD_cons_zero]; simp +arith only
  · rw [dot_1]; simp only [List.getD_cons_succ, List.getD_cons_zero]; simp +arith only
  · rw [dot_2]; simp only [List.getD_cons_succ, List.getD_cons_zero]; simp +arith only
  · rw [dot_3]; simp only [List.getD_cons_succ, List.getD_cons_zero]; simp +arith only
  · rw [dot_4]; simp only [List.getD_cons_succ, List.getD_cons_zero]; simp +arith only
  · rw [dot_5]; simp only [List.getD_cons_succ, List.getD_cons_zero]; simp +arith only
  · rw [dot_6]; simp only [List.getD_cons_succ, List.getD_cons_zero]; simp +arith only
  · rw [dot_7]; simp only [List.getD_cons_succ, List.getD_cons_zero]; simp +arith only
  · rw [dot_8]; simp only [List.getD_cons_succ, List.getD_cons_zero]; simp +arith only
  · rw [dot_9]; simp only [List.getD_cons_succ, List.getD_cons_zero]; simp +arith only
  · rw [dot_10]; simp only [List.getD_cons_succ, List.getD_cons_zero]; simp +arith only
  · rw [dot_11]; simp only [List.getD_cons_succ, List.getD_cons_zero]; simp +arith only
  · rw [dot_12]; simp only [List.getD_cons_succ, List.getD_cons_zero]; simp +arith only
  · rw [dot_13]; simp only [List.getD_cons_succ, List.getD_cons_zero]; simp +arith only
  · rw [dot_14]; simp only [List.getD_cons_succ, List.getD_cons_zero]; simp +arith only
  · rw [dot_15]; simp only [List.getD_cons_succ, List.getD_cons_zero]; simp +arith only
theorem walsh_at {xs : List Int} (h : xs.length = 16) : ∀ u, u < 16 → (walshF xs).getD u 0 = ((List.range 16).map fun v => sgn u v * xs.getD v 0).sum := by
  have e : xs = (List.range 16).map fun i => xs.getD i 0 := by
    refine List.ext_getElem (by simp [h]) fun i h1 h2 => ?_
    rw [List.getElem_map, List.getElem_range, List.getD_eq_getElem?_getD, List.getElem?_eq_getElem h1]; rfl
  rw [e]
  exact walsh_16 (xs.getD 0 0) (xs.getD 1 0) (xs.getD 2 0) (xs.getD 3 0) (xs.getD 4 0) (xs.getD 5 0) (xs.getD 6 0) (xs.getD 7 0) (xs.getD 8 0) (xs.getD 9 0) (xs.getD 10 0) (xs.getD 11 0) (xs.getD 12 0) (xs.getD 13 0) (xs.getD 14 0) (xs.getD 15 0)
theorem sgn_xor : ∀ u, u < 16 → ∀ r, r < 16 → ∀ v, v < 16 → sgn (u ^^^ r) v = sgn u v * sgn r v := by decide +kernel
theorem sgn_pm (u v : Nat) : sgn u v = 1 ∨ sgn u v = -1 := by unfold sgn; split <;> simp
theorem sgn_zero (v : Nat) : sgn 0 v = 1 := by unfold sgn; simp
end
section
-- Uses
set_option maxHeartbeats 1000000
section
variable {w : World} {news : List (Addr × Obj)} {p : Program} {loose : List Str} {mean : ExcName → Option Value} {mg mb : Str → Option Value}
    {dp un : Nat} {gd : Option (List Code)} {cn : Str} {cs : Scope} {a : Addr} {ccd : Value} {cl : List (Str × Addr)} {outer : List Env} {A₀ : Around} {base h₀ : Heap} {L : Addr} {m : Str → Option Value} {s : Shared} {Q E : Value → Shared → Prop}
theorem walshU {lx : Addr} {xvs : List Value} {kx : Nat} {xs out : List Int} (N : News h₀ L s.heap news) (hm : (lx, W.listOf xvs.toArray kx) ∈ news) (hxs : IntsAre xvs xs) (hlen : xs.length = 16) (hout : ∀ ys, walshJ xs 4 ys → ys = out)
    (B : Below A₀ base outer h₀) (F : Fr h₀ L s.heap m) (X : (hd02.heap_1 w.params).In h₀) (T : Top p loose mean mg mb h₀) (C1 : CodeHd base 72 68) (C2 : CodeHd base 79 75) (hd : dp + 3 < recursionLimit) (hu : un + 8 * 3 < cLine)
    (ret : ∀ l' vs' k' h' tk', IntsAre vs' out → (∀ p ∈ news, p.1 < l') → Fr h₀ L h' m → News h₀ L h' ((l', W.listOf vs'.toArray k') :: news) → Q (.ref l') { s with heap := h', toks := tk' }) (hk : cs.kind = .function := by exact rfl) :
    wpAny (model PySem.Challenge.rw_sw0076_02.row.prog w) (ktrTop dp un gd cn cs L a ccd cl outer) (call (.ref 270) [.ref lx]) Q E s :=
  Spec.use (walsh w lx xvs kx xs hxs hlen news hm out hout) hk B F X N T C1 C2 hd hu fun v news' h' tk' F' N' P' => by
    obtain ⟨l', vs', k', e1, e2, i1, l1⟩ := P'
    subst e1; subst e2
    exact ret l' vs' k' h' tk' i1 l1 F' N'
theorem getallU {x : Str} {tx t : Tok} {ax ad al : Addr} {es : List HE} {k : Nat} (N : News h₀ L s.heap news) (hmx : (ax, instObj 238 ad) ∈ news) (hmd : (ad, hdDict w.params al t) ∈ news) (hml : (al, W.listOf (es.map heV).toArray k) ∈ news) (hmt : ∀ e ∈ es, heO e ∈ news)
    (hxl : x.length ≤ 5592405) (hx : ∀ p, p < (Txt.lower x).cps.size → NoHit nameCode ((Txt.lower x).cps.getD p 0)) (hxs : (Txt.lower x).cps.size < 2 ^ 63) (hel : ∀ e ∈ es, e.2.1.1.length ≤ 5592405) (hes : es.length ≤ sizeLine)
    (B : Below A₀ base outer h₀) (F : Fr h₀ L s.heap m) (X : (hd02.heap_1 w.params).In h₀) (T : Top p loose mean mg mb h₀) (C1 : CodeHd base 72 68) (C2 : CodeHd base 79 75) (hd : dp + 6 < recursionLimit) (hu : un + 8 * 6 < cLine)
    (ret : ∀ l' vs' k' h' tk', StrsAre vs' (getF (Txt.lower x) es) → (∀ p ∈ news, p.1 ≠ l') → Fr h₀ L h' m → News h₀ L h' ((l', W.listOf vs'.toArray k') :: news) → Q (.ref l') { s with heap := h', toks := tk' }) (hk : cs.kind = .function := by exact rfl) :
    wpAny (model PySem.Challenge.rw_sw0076_02.row.prog w) (ktrTop dp un gd cn cs L a ccd cl outer) (call (.ref 177) [.ref ax, .str x tx]) Q E s :=
  Spec.use (getall w x tx t ax ad al es k news hxl hx hxs hel hes hml hmx hmd hmt) hk B F X N T C1 C2 hd hu fun v news' h' tk' F' N' P' => by
    obtain ⟨l', vs', k', e1, e2, i1, l1⟩ := P'
    subst e1; subst e2
    exact ret l' vs' k' h' tk' i1 l1 F' N'
end
end
section
-- Table
set_option maxHeartbeats 1000000
theorem mem_head {p : Addr × Obj} {l : List (Addr × Obj)} : p ∈ p :: l := List.Mem.head _
abbrev heP (e : HE) : Str × Str := (e.2.1.1, e.2.2.1)
theorem fr_one {m mp : Str → Option Value} {n : Str} (h : ∀ y, y ≠ n → mp y = m y) : mp = fun y => if y = n then mp n else m y := by
  funext y
  by_cases e : y = n
  · rw [if_pos e, e]
  · rw [if_neg e, h y e]
theorem mem_pick {α : Type} {pre tl : List α} {ks : List Nat} : ∀ x ∈ (ks.filterMap fun i => pre[i]?) ++ tl, x ∈ pre ++ tl := by
  intro x hx
  rcases List.mem_append.mp hx with q | q
  · obtain ⟨i, _, e⟩ := List.mem_filterMap.mp q
    exact List.mem_append_left _ (List.mem_of_getElem? e)
  · exact List.mem_append_right _ q
/-- the two paths of a choice between two texts, joined -/
def TextEnd (P : Str → Prop) (s : Shared) (v : Value) (s' : Shared) : Prop := ∃ x t k, P x ∧ v = .str x t ∧ s' = { s with toks := k }
theorem TextEnd.mk {P : Str → Prop} {s : Shared} {x : Str} {t : Tok} {k : Nat} (h : P x) : TextEnd P s (.str x t) { s with toks := k } := ⟨x, t, k, h, rfl, rfl⟩
theorem ifexp_join {M : Model} {A : Around} {E : Value → Shared → Prop} {s : Shared} {Q : Value → Shared → Prop} {m : Sem Value} (P : Str → Prop) (h : wpAny M A m (TextEnd P s) E s) (k : ∀ x t tk, P x → Q (.str x t) { s with toks := tk }) : wpAny M A m Q E s :=
  wpAny_mono h (fun v s' h' => by obtain ⟨x, t, tk, hx, rfl, rfl⟩ := h'; exact k x t tk hx) fun _ _ e => e
theorem news_perm5 {h₀ h : Heap} {L : Addr} {z a b c d : Addr × Obj} {tl : List (Addr × Obj)} (N : News h₀ L h (z :: c :: a :: b :: d :: tl)) : News h₀ L h (a :: b :: d :: c :: tl) := fun p hp => N p (by
  simp only [List.mem_cons] at hp ⊢
  rcases hp with e | e | e | e | hp
  · exact .inr (.inr (.inl e))
  · exact .inr (.inr (.inr (.inl e)))
  · exact .inr (.inr (.inr (.inr (.inl e))))
  · exact .inr (.inl e)
  · exact .inr (.inr (.inr (.inr (.inr hp)))))
theorem es_off {es : List HE} {al c : Addr} (h : ∀ e ∈ es, @LT.lt Nat _ al e.1) (hc : @LT.lt Nat _ c al) : ∀ p ∈ es.map heO, p.1 ≠ c := by
  intro p hp
  obtain ⟨e, he, rfl⟩ := List.mem_map.mp hp
  exact Nat.ne_of_gt (Nat.lt_trans hc (h e he))
theorem off_four {ax al ad ct : Addr} {ox od oc : Obj} {tl : List (Addr × Obj)} (h1 : @LT.lt Nat _ ax al) (h2 : @LT.lt Nat _ ad al) (h3 : @LT.lt Nat _ ct al) (h4 : ∀ p ∈ tl, p.1 ≠ al) : ∀ p ∈ (ax, ox) :: (ad, od) :: (ct, oc) :: tl, p.1 ≠ al :=
  List.forall_mem_cons.mpr ⟨Nat.ne_of_lt h1, List.forall_mem_cons.mpr ⟨Nat.ne_of_lt h2, List.forall_mem_cons.mpr ⟨Nat.ne_of_lt h3, h4⟩⟩⟩
theorem tab_start {h₀ h : Heap} {L al ax ad ct : Addr} {oa ox od ot : Obj} {e1 e2 e3 e4 e5 e6 e7 e8 e9 e10 e11 e12 e13 p q : Addr × Obj} (N : News h₀ L h [(al, oa), (ax, ox), (ad, od), e1, e2, e3, e4, e5, e6, e7, e8, e9, e10, e11, e12, e13, (ct, ot), p, q])
    (i3 : ∀ x ∈ [e1, e2, e3, e4, e5, e6, e7, e8, e9, e10, e11, e12, e13, (ct, ot), p, q], @LT.lt Nat _ x.1 ad) (i1 : @LT.lt Nat _ ad ax) (i2 : @LT.lt Nat _ ax al) :
    News h₀ L h ((ct, ot) :: (al, oa) :: (ax, ox) :: (ad, od) :: [e1, e2, e3, e4, e5, e6, e7, e8, e9, e10, e11, e12, e13, p, q]) ∧ (∀ x ∈ [e1, e2, e3, e4, e5, e6, e7, e8, e9, e10, e11, e12, e13, p, q], x.1 ≠ al) ∧ @LT.lt Nat _ ct al ∧ @LT.lt Nat _ ct ax ∧ @LT.lt Nat _ ct ad ∧ @LT.lt Nat _ ad al := by
  have hc : @LT.lt Nat _ ct ad := i3 (ct, ot) (by simp)
  exact ⟨fun x hx => N x (mem_pick (pre := [(al, oa), (ax, ox), (ad, od), e1, e2, e3, e4, e5, e6, e7, e8, e9, e10, e11, e12, e13, (ct, ot), p, q]) (tl := []) (ks := [16, 0, 1, 2, 3, 4, 5, 6, 7, 8, 9, 10, 11, 12, 13, 14, 15, 17, 18]) x hx),
    fun x hx => Nat.ne_of_lt (Nat.lt_trans (i3 x (mem_pick (pre := [e1, e2, e3, e4, e5, e6, e7, e8, e9, e10, e11, e12, e13, (ct, ot), p, q]) (tl := []) (ks := [0, 1, 2, 3, 4, 5, 6, 7, 8, 9, 10, 11, 12, 14, 15]) x hx)) (Nat.lt_trans i1 i2)), Nat.lt_trans hc (Nat.lt_trans i1 i2), Nat.lt_trans hc i1, hc, Nat.lt_trans i1 i2⟩
theorem tab_cells {h₀ h : Heap} {L al ax ad c4 c5 c9 c8 c7 c6 : Addr} {oa ox od o4 o5 o9 o8 o7 o6 : Obj} {e3 e4 e5 e6 e7 : Addr × Obj} {r : List (Addr × Obj)} (_N : News h₀ L h ((al, oa) :: (ax, ox) :: (ad, od) :: (c4, o4) :: (c5, o5) :: e3 :: e4 :: e5 :: e6 :: e7 :: (c9, o9) :: (c8, o8) :: (c7, o7) :: (c6, o6) :: r))
    (i3 : ∀ x ∈ ((c4, o4) :: (c5, o5) :: e3 :: e4 :: e5 :: e6 :: e7 :: (c9, o9) :: (c8, o8) :: (c7, o7) :: (c6, o6) :: r), @LT.lt Nat _ x.1 ad) (i1 : @LT.lt Nat _ ad ax) (i2 : @LT.lt Nat _ ax al) :
    (@LT.lt Nat _ c4 al) ∧ (@LT.lt Nat _ c4 ax) ∧ (@LT.lt Nat _ c4 ad) ∧ (@LT.lt Nat _ c6 al) ∧ (@LT.lt Nat _ c6 ax) ∧ (@LT.lt Nat _ c6 ad) ∧ (@LT.lt Nat _ c7 al) ∧ (@LT.lt Nat _ c7 ax) ∧ (@LT.lt Nat _ c7 ad) ∧ (@LT.lt Nat _ c8 al) ∧ (@LT.lt Nat _ c8 ax) ∧ (@LT.lt Nat _ c8 ad) ∧ (@LT.lt Nat _ c9 al) ∧ (@LT.lt Nat _ c9 ax) ∧ (@LT.lt Nat _ c9 ad) := by
  have t : ∀ c : Nat, @LT.lt Nat _ c ad → @LT.lt Nat _ c al := fun c h => Nat.lt_trans h (Nat.lt_trans i1 i2)
  have t2 : ∀ c : Nat, @LT.lt Nat _ c ad → @LT.lt Nat _ c ax := fun c h => Nat.lt_trans h i1
  have k4 := i3 (c4, o4) (by simp)
  have k6 := i3 (c6, o6) (by simp)
  have k7 := i3 (c7, o7) (by simp)
  have k8 := i3 (c8, o8) (by simp)
  have k9 := i3 (c9, o9) (by simp)
  exact ⟨t _ k4, t2 _ k4, k4, t _ k6, t2 _ k6, k6, t _ k7, t2 _ k7, k7, t _ k8, t2 _ k8, k8, t _ k9, t2 _ k9, k9⟩
/-- between the turns of the loop that fills the table -/
def TabJ (P : Params) (t : Tok) (m : Str → Option Value) (nm : Str) (ct al ax ad : Addr) (ent : Nat → Str × Str) (I : Addr) (i : Nat) (led : List (Addr × Obj)) (mp : Str → Option Value) : Prop :=
  (∀ y, y ≠ nm → mp y = m y) ∧ ∃ (ot : Obj) (c : Option Value) (es : List HE) (k : Nat), led = (ct, ot) :: (al, W.listOf (es.map heV).toArray k) :: (ax, instObj 238 ad) :: (ad, hdDict P al t) :: es.map heO ∧ ot.data = .cell c ∧ es.map heP = (List.range i).map ent ∧ (∀ e ∈ es, @LT.lt Nat _ al e.1) ∧ @Ne Nat ct I ∧ @Ne Nat al I ∧ @Ne Nat ax I ∧ @Ne Nat ad I ∧ ∀ e ∈ es, @Ne Nat e.1 I
def TabT (P : Params) (t : Tok) (m : Str → Option Value) (nm : Str) (ct al ax ad : Addr) (ent : Nat → Str × Str) (i : Nat) (es : List HE) (tl : List (Addr × Obj)) (led : List (Addr × Obj)) (mp : Str → Option Value) : Prop :=
  (∀ y, y ≠ nm → mp y = m y) ∧ ∃ (ot : Obj) (c : Option Value) (k : Nat) (T : Addr) (t1 t2 : Tok), led = [(ct, ot), (al, W.listOf (es.map heV ++ [Value.ref T]).toArray k), (ax, instObj 238 ad), (ad, hdDict P al t), (T, { cls := .type "tuple", data := .seq #[.str (ent i).1 t1, .str (ent i).2 t2] })] ∧ ot.data = .cell c ∧ @LT.lt Nat _ al T ∧ ∀ p ∈ tl, @LT.lt Nat _ p.1 T
theorem table_end {P : Params} {t : Tok} {m mp : Str → Option Value} {nm : Str} {ct al ax ad T : Addr} {ent : Nat → Str × Str} {i : Nat} {es : List HE} {tl all : List (Addr × Obj)} {h₀ h' : Heap} {L : Addr} {s : Shared} {tk k : Nat} {gs : Array GenState} {ot : Obj} {c : Option Value} {x y : Str} {t1 t2 : Tok}
    (F : Fr h₀ L h' mp) (N : News h₀ L h' all) (hg : AllBare s.gens → AllBare gs) (hm : ∀ y, y ≠ nm → mp y = m y) (m1 : (ct, ot) ∈ all) (m2 : (al, W.listOf (es.map heV ++ [Value.ref T]).toArray k) ∈ all) (m3 : (T, ({ cls := .type "tuple", data := .seq #[.str x t1, .str y t2] } : Obj)) ∈ all) (m4 : (ax, instObj 238 ad) ∈ all) (m5 : (ad, hdDict P al t) ∈ all)
    (hs : ∀ e ∈ tl, e ∈ all) (d : ot.data = .cell c) (e : ent i = (x, y)) (l1 : @LT.lt Nat _ al T) (l2 : ∀ p ∈ tl, @LT.lt Nat _ p.1 T) : TurnGG h₀ L s tl (TabT P t m nm ct al ax ad ent i es tl) .next { s with heap := h', toks := tk, gens := gs } := by
  have e1 : x = (ent i).1 := by rw [e]
  have e2 : y = (ent i).2 := by rw [e]
  subst e1 e2
  refine turnGG _ F N hg (fun p hp => ?_) ⟨hm, ot, c, k, T, t1, t2, rfl, d, l1, l2⟩
  simp only [List.cons_append, List.nil_append, List.mem_cons] at hp
  rcases hp with rfl | rfl | rfl | rfl | rfl | hp
  · exact m1
  · exact m2
  · exact m4
  · exact m5
  · exact m3
  · exact hs p hp
section
variable {prog : Program} {w : World} {A : Around} {E : Value → Shared → Prop} {s : Shared} {env : Env} {h₀ : Heap} {x : Str} {body : List Stmt} {R : Result → Shared → Prop} {L : Addr}
theorem table_loop {px : Pos} {P : Params} {t u1 u2 u3 : Tok} {m : Str → Option Value} {ct al ax ad r : Addr} {k0 : Nat} {ot : Obj} {c0 : Option Value} {tail : List (Addr × Obj)} (ent : Nat → Str × Str) (nm : Str)
    (hh : A.handled = none) (hr : IsRange s.heap r 0 16 1 u1 u2 u3) (F : Fr h₀ L s.heap m) (N : News h₀ L s.heap ((ct, ot) :: (al, W.listOf #[] k0) :: (ax, instObj 238 ad) :: (ad, hdDict P al t) :: tail)) (d : ot.data = .cell c0)
    (t1 : ∀ e ∈ tail, e.1 ≠ ct) (t2 : ∀ e ∈ tail, e.1 ≠ al) (lca : @LT.lt Nat _ ct al)
    (done : ∀ (ot : Obj) (c : Option Value) (es : List HE) (k : Nat) (u : Option Value) h tk gs, ot.data = .cell c → es.map heP = (List.range 16).map ent → (∀ e ∈ es, @LT.lt Nat _ al e.1) → (AllBare s.gens → AllBare gs) → Fr h₀ L h (fun y => if y = nm then u else m y) → News h₀ L h ((ct, ot) :: (al, W.listOf (es.map heV).toArray k) :: (ax, instObj 238 ad) :: (ad, hdDict P al t) :: (tail ++ es.map heO)) → R (.ok .next) { s with heap := h, toks := tk, gens := gs })
    (turn : ∀ i tt (ot : Obj) (c : Option Value) (es : List HE) (k : Nat) (u : Option Value) h tk gs tl, i < 16 → ot.data = .cell c → es.length = i → (∀ e ∈ es, heO e ∈ tl) → (AllBare s.gens → AllBare gs) → (∀ e ∈ tail, e ∈ tl) → (∀ e ∈ tl, e.1 ≠ ct) → (∀ e ∈ tl, e.1 ≠ al) → Fr h₀ L h (fun y => if y = nm then u else m y) → News h₀ L h ((ct, ot) :: (al, W.listOf (es.map heV).toArray k) :: (ax, instObj 238 ad) :: (ad, hdDict P al t) :: tl) →
      wpAny (model prog w) A (storeName env x (.int (0 + (i : Int)) tt)) (fun _ s₂ => wpAny (model prog w) A (execs body env) (TurnGG h₀ L { s with heap := h, toks := tk, gens := gs } tl (TabT P t m nm ct al ax ad ent i es tl)) (notedBy (model prog w) A env fun e s' => R (.error e) s') s₂) (notedBy (model prog w) A env fun e s' => R (.error e) s') { s with heap := h, toks := tk, gens := gs }) :
    wpAny (model prog w) A (pyIter (.ref r)) (fun it s₂ => codeAny (model prog w) A (.forLoop (.Name x px) it body [] env) R s₂) E s := by
  refine rangeG (n := 16) (led := [(ct, ot), (al, W.listOf #[] k0), (ax, instObj 238 ad), (ad, hdDict P al t)]) (tail := tail) (TabJ P t m nm ct al ax ad ent) hh hr (by rfl) (by rfl) F N ?_ ?_ ?_ ?_
  · rintro I i led mp ⟨_, ot, c, es, k, rfl, _, _, _, n1, n2, n3, n4, n5⟩ p hp
    simp only [List.mem_cons, List.mem_map] at hp
    rcases hp with rfl | rfl | rfl | rfl | ⟨e, he, rfl⟩
    · exact n1
    · exact n2
    · exact n3
    · exact n4
    · exact n5 e he
  · intro I hI
    refine ⟨fun _ _ => rfl, ot, c0, [], k0, rfl, d, rfl, (fun _ h => nomatch h), Nat.ne_of_lt (hI _ (.head _)), Nat.ne_of_lt (hI _ (.tail _ (.head _))), Nat.ne_of_lt (hI _ (.tail _ (.tail _ (.head _)))), Nat.ne_of_lt (hI _ (.tail _ (.tail _ (.tail _ (.head _))))), fun _ h => nomatch h⟩
  · rintro I led mp h tk gs ⟨hm, ot, c, es, k, rfl, d, he, hl, _⟩ hg F' N'
    rw [fr_one hm] at F'
    refine done ot c es k _ h tk gs d he hl hg F' fun p hp => N' p ?_
    simp only [List.cons_append, List.mem_cons, List.mem_append] at hp ⊢
    rcases hp with q | q | q | q | q | q
    · exact .inl q
    · exact .inr (.inl q)
    · exact .inr (.inr (.inl q))
    · exact .inr (.inr (.inr (.inl q)))
    · exact .inr (.inr (.inr (.inr (.inr q))))
    · exact .inr (.inr (.inr (.inr (.inl q))))
  · rintro I i tt led mp h tk gs tl hi ⟨hm, ot, c, es, k, rfl, d, he, hl, n1, n2, n3, n4, n5⟩ hg hsub ⟨oI, hI⟩ hown hneI F' N'
    rw [fr_one hm] at F'
    have hlen : es.length = i := by
      have := congrArg List.length he
      simpa using this
    have hct : ∀ e ∈ es.map heO ++ tl, e.1 ≠ ct := by
      intro e hm
      rcases List.mem_append.mp hm with q | q
      · obtain ⟨e', q', rfl⟩ := List.mem_map.mp q
        have := hl e' q'
        exact Nat.ne_of_gt (Nat.lt_trans lca this)
      · rcases hown e q with q | q
        · exact t1 e q
        · rw [q]; exact n1.symm
    have hal : ∀ e ∈ es.map heO ++ tl, e.1 ≠ al := by
      intro e hm
      rcases List.mem_append.mp hm with q | q
      · obtain ⟨e', q', rfl⟩ := List.mem_map.mp q
        exact Nat.ne_of_gt (hl e' q')
      · rcases hown e q with q | q
        · exact t2 e q
        · rw [q]; exact n2.symm
    have key := turn i tt ot c es k _ h tk gs (es.map heO ++ tl) hi d hlen (fun e q => List.mem_append_left _ (List.mem_map_of_mem (f := heO) q)) hg (fun e q => List.mem_append_right _ (hsub e q)) hct hal F' (by simpa using N')
    refine wpAny_mono key (fun _ s₂ h₂ => wpAny_mono h₂ (fun fl s₃ h₃ => ?_) fun _ _ e => e) fun _ _ e => e
    have fin : ∀ s₃, EndG h₀ L { s with heap := h, toks := tk, gens := gs } (es.map heO ++ tl) (TabT P t m nm ct al ax ad ent i es (es.map heO ++ tl)) s₃ → EndG h₀ L { s with heap := h, toks := tk, gens := gs } tl (TabJ P t m nm ct al ax ad ent I (i + 1)) s₃ := by
      rintro s₃ ⟨led, mp, h', tk', gs', all, e, hg', F₃, N₃, hs₃, hm', ot, c, k, T, t1, t2, rfl, d, l1, l2⟩
      have hTI : @Ne Nat T I := Nat.ne_of_gt (l2 _ (List.mem_append_right _ hI))
      refine ⟨_, mp, h', tk', gs', all, e, hg', F₃, N₃, ?_, hm', ot, c, es ++ [(T, ((ent i).1, t1), ((ent i).2, t2))], k, rfl, d, ?_, ?_, n1, n2, n3, n4, ?_⟩
      · intro p hp
        refine hs₃ p ?_
        simp only [List.map_append, List.map_cons, List.map_nil, List.cons_append, List.nil_append, List.append_assoc, List.mem_cons, List.mem_append] at hp ⊢
        rcases hp with q | q | q | q | q | q | q
        · exact .inl q
        · exact .inr (.inl q)
        · exact .inr (.inr (.inl q))
        · exact .inr (.inr (.inr (.inl q)))
        · exact .inr (.inr (.inr (.inr (.inr (.inl q)))))
        · exact .inr (.inr (.inr (.inr (.inl q))))
        · exact .inr (.inr (.inr (.inr (.inr (.inr q)))))
      · rw [List.map_append, he, List.range_succ, List.map_append]; rfl
      · intro e' q
        rcases List.mem_append.mp q with q | q
        · exact hl e' q
        · rw [List.mem_singleton.mp q]; exact l1
      · intro e' q
        rcases List.mem_append.mp q with q | q
        · exact n5 e' q
        · rw [List.mem_singleton.mp q]; exact hTI
    cases fl with
    | next => exact fin s₃ h₃
    | cont => exact fin s₃ h₃
    | brk => exact h₃
    | ret v => exact h₃
end
end
section
-- Ent
set_option maxHeartbeats 4000000
def xyz (j : Nat) : Str := Txt.item (Str.ofString "xyz") (0 + (j : Int))
def nameZ (p : Nat → Bool) (i : Nat) : List Str := ((List.range i).filter p).map xyz
theorem nameZ_yes {p : Nat → Bool} {i : Nat} (h : p i = true) : nameZ p (i + 1) = nameZ p i ++ [xyz i] := by
  unfold nameZ
  rw [List.range_succ, List.filter_append, List.map_append]
  simp [h]
theorem nameZ_no {p : Nat → Bool} {i : Nat} (h : ¬ p i = true) : nameZ p (i + 1) = nameZ p i := by
  unfold nameZ
  rw [List.range_succ, List.filter_append, List.map_append]
  simp [h]
def nameF (p : Nat → Bool) : Str := Str.ofString "r" ++ Txt.join (Str.ofString "") (nameZ p 3)
def listB (a b c : Bool) : List Str := (if a = true then [xyz 0] else []) ++ (if b = true then [xyz 1] else []) ++ (if c = true then [xyz 2] else [])
def nameB (a b c : Bool) : Str := Str.ofString "r" ++ Txt.join (Str.ofString "") (listB a b c)
theorem nameZ_eq (p : Nat → Bool) : nameZ p 3 = listB (p 0) (p 1) (p 2) := by
  unfold listB
  have e0 : nameZ p 0 = [] := rfl
  have e1 : nameZ p 1 = nameZ p 0 ++ (if p 0 = true then [xyz 0] else []) := by
    by_cases h : p 0 = true
    · rw [nameZ_yes h, if_pos h]
    · rw [nameZ_no h, if_neg h, List.append_nil]
  have e2 : nameZ p 2 = nameZ p 1 ++ (if p 1 = true then [xyz 1] else []) := by
    by_cases h : p 1 = true
    · rw [nameZ_yes h, if_pos h]
    · rw [nameZ_no h, if_neg h, List.append_nil]
  by_cases h : p 2 = true
  · rw [nameZ_yes h, if_pos h, e2, e1, e0, List.nil_append]
  · rw [nameZ_no h, if_neg h, e2, e1, e0, List.nil_append, List.append_nil]
theorem nameF_eq (p : Nat → Bool) : nameF p = nameB (p 0) (p 1) (p 2) := by unfold nameF nameB; rw [nameZ_eq]
theorem name_sum (p : Nat → Bool) : ((nameZ p 3).map (·.length)).sum + (nameZ p 3).length ≤ 1048576 := by
  have key : ∀ a b c, ((listB a b c).map (·.length)).sum + (listB a b c).length ≤ 1048576 := by decide +kernel
  rw [nameZ_eq]; exact key _ _ _
theorem name_all {P : Str → Prop} (h : ∀ a b c, P (nameB a b c)) (p : Nat → Bool) : P (nameF p) := by rw [nameF_eq]; exact h _ _ _
theorem name_stripOk (p : Nat → Bool) : StripOk (nameF p) := name_all (P := StripOk) (by unfold StripOk; decide +kernel) p
theorem name_strip (p : Nat → Bool) : stripF (nameF p) = nameF p := name_all (P := fun x => stripF x = x) (by decide +kernel) p
theorem name_len (p : Nat → Bool) : (nameF p).length ≤ 5592405 := name_all (P := fun x => x.length ≤ 5592405) (by decide +kernel) p
theorem name_lenU (p : Nat → Bool) : (Txt.upper (nameF p)).length ≤ 5592405 := name_all (P := fun x => (Txt.upper x).length ≤ 5592405) (by decide +kernel) p
theorem name_low (p : Nat → Bool) : Txt.lower (nameF p) = nameF p := name_all (P := fun x => Txt.lower x = x) (by decide +kernel) p
theorem name_lowU (p : Nat → Bool) : Txt.lower (Txt.upper (nameF p)) = nameF p := name_all (P := fun x => Txt.lower (Txt.upper x) = x) (by decide +kernel) p
theorem name_size (p : Nat → Bool) : (nameF p).cps.size < 2 ^ 63 := name_all (P := fun x => x.cps.size < 2 ^ 63) (by decide +kernel) p
theorem name_sizeU (p : Nat → Bool) : (Txt.upper (nameF p)).cps.size < 2 ^ 63 := name_all (P := fun x => (Txt.upper x).cps.size < 2 ^ 63) (by decide +kernel) p
theorem name_hit (p : Nat → Bool) : ∀ q, q < (nameF p).cps.size → NoHit nameCode ((nameF p).cps.getD q 0) := fun q hq =>
  Mine.name_ok (name_all (P := fun x => ∀ q, q < x.cps.size → (x.cps.getD q 0 ∈ [48, 49, 50, 51, 52, 53, 54, 55, 56, 57, 45] ∨ (65 ≤ x.cps.getD q 0 ∧ x.cps.getD q 0 ≤ 90) ∨ (97 ≤ x.cps.getD q 0 ∧ x.cps.getD q 0 ≤ 122))) (by decide +kernel) p q hq)
theorem name_hitU (p : Nat → Bool) : ∀ q, q < (Txt.upper (nameF p)).cps.size → NoHit nameCode ((Txt.upper (nameF p)).cps.getD q 0) := fun q hq =>
  Mine.name_ok (name_all (P := fun x => ∀ q, q < (Txt.upper x).cps.size → ((Txt.upper x).cps.getD q 0 ∈ [48, 49, 50, 51, 52, 53, 54, 55, 56, 57, 45] ∨ (65 ≤ (Txt.upper x).cps.getD q 0 ∧ (Txt.upper x).cps.getD q 0 ≤ 90) ∨ (97 ≤ (Txt.upper x).cps.getD q 0 ∧ (Txt.upper x).cps.getD q 0 ≤ 122))) (by decide +kernel) p q hq)
theorem name_inj (p q : Nat → Bool) : nameF p = nameF q ↔ p 0 = q 0 ∧ p 1 = q 1 ∧ p 2 = q 2 := by
  have key : ∀ a b c d e f, nameB a b c = nameB d e f ↔ a = d ∧ b = e ∧ c = f := by decide +kernel
  rw [nameF_eq, nameF_eq]; exact key _ _ _ _ _ _
def maskP (s : Nat) (j : Nat) : Bool := (s >>> j) % 2 == 0
/-- does row j's line show the sign of t? -/
def shownP (ws : List Int) (sg : List Str) (xs : List Int) (t j : Nat) : Bool := Txt.contains ((xs.map fun r => stripF (lineF ws sg r)).getD (0 + (j : Int)).toNat Str.empty) (sg.getD (0 + (t : Int)).toNat Str.empty)
def worthL (ns : List Int) : List Int := (List.range 16).map (worthF ns)
def worthT (ws ns : List Int) (t : Nat) : Int := (worthL ns).getD (ws.getD (0 + (t : Int)).toNat 0).toNat 0
def entF (ws : List Int) (sg : List Str) (ns xs : List Int) (t : Nat) : Str × Str :=
  (if (7 : Int) < 0 + (t : Int) then Txt.upper (nameF (shownP ws sg xs t)) else nameF (shownP ws sg xs t), Str.ofString (toString (worthT ws ns t)))
theorem ent_hi {ws : List Int} {sg : List Str} {ns xs : List Int} {t : Nat} (h : (7 : Int) < 0 + (t : Int)) : entF ws sg ns xs t = (Txt.upper (nameF (shownP ws sg xs t)), Str.ofString (toString (worthT ws ns t))) := by unfold entF; rw [if_pos h]
theorem ent_lo {ws : List Int} {sg : List Str} {ns xs : List Int} {t : Nat} (h : ¬ (7 : Int) < 0 + (t : Int)) : entF ws sg ns xs t = (nameF (shownP ws sg xs t), Str.ofString (toString (worthT ws ns t))) := by unfold entF; rw [if_neg h]
theorem ent_hit {ws : List Int} {sg : List Str} {ns xs : List Int} {t : Nat} : ∀ q, q < (entF ws sg ns xs t).1.cps.size → NoHit nameCode ((entF ws sg ns xs t).1.cps.getD q 0) := by
  unfold entF
  dsimp only
  split
  · exact name_hitU _
  · exact name_hit _
theorem ent_size {ws : List Int} {sg : List Str} {ns xs : List Int} {t : Nat} : (entF ws sg ns xs t).1.cps.size < 2 ^ 63 := by
  unfold entF
  dsimp only
  split
  · exact name_sizeU _
  · exact name_size _
theorem worth_at {ns : List Int} {i : Nat} (h : i < 16) : (worthL ns).getD i 0 = worthF ns i := by
  unfold worthL
  rw [List.getD_eq_getElem?_getD, List.getElem?_map, List.getElem?_range h]; rfl
theorem worth_bound {ns : List Int} {i : Nat} (h : i < 16) : (worthF ns i).natAbs < 10 ^ 31 := by
  unfold worthF halfN
  have h1 : (0 : Int) ≤ (ns.getD i 0 + 5 * 10 ^ 29).fmod (2 * (5 * 10 ^ 29)) := Int.fmod_nonneg_of_pos _ (by decide)
  have h2 : (ns.getD i 0 + 5 * 10 ^ 29).fmod (2 * (5 * 10 ^ 29)) < 2 * (5 * 10 ^ 29) := Int.fmod_lt_of_pos _ (by decide)
  have h3 : (2 : Int) ^ i ≤ 2 ^ 16 := by
    have : (2 : Nat) ^ i ≤ 2 ^ 16 := Nat.pow_le_pow_right (by decide) (by omega)
    exact_mod_cast this
  have h4 : (0 : Int) ≤ 2 ^ i := by
    have : (0 : Nat) ≤ 2 ^ i := Nat.zero_le _
    exact_mod_cast this
  generalize (2 : Int) ^ i = a at h3 h4 ⊢
  generalize (ns.getD i 0 + 5 * 10 ^ 29).fmod (2 * (5 * 10 ^ 29)) = b at h1 h2 ⊢
  omega
theorem worthL_bound (ns : List Int) (k : Nat) : ((worthL ns).getD k 0).natAbs < 10 ^ 31 := by
  by_cases h : k < 16
  · rw [worth_at h]; exact worth_bound h
  · rw [List.getD_eq_getElem?_getD, List.getElem?_eq_none (by simp [worthL]; omega)]; decide
theorem log_small {a : Int} (h : a.natAbs < 10 ^ 31) : a.natAbs.log2 < 1920 := shown (N := 10 ^ 31) (by omega) (by omega) (by decide +kernel)
theorem idx_lo (i : Nat) : (0 : Int) ≤ 0 + (i : Int) := by omega
theorem idx_hi {i n : Nat} (h : i < n) : 0 + (i : Int) < (n : Int) := by omega
theorem idx_fit {i : Nat} (h : i < 16) : 0 + (i : Int) < 2 ^ 63 := by omega
theorem idx_fit3 {i : Nat} (h : i < 3) : 0 + (i : Int) < 2 ^ 63 := by omega
theorem word_idx : ∀ t : Nat, t < 16 → 0 ≤ wordsL.getD (0 + (t : Int)).toNat 0 ∧ wordsL.getD (0 + (t : Int)).toNat 0 < 16 := by decide +kernel
section
variable {prog : Program} {w : World} {A : Around} {E : Value → Shared → Prop} {s : Shared} {Q : Value → Shared → Prop} {t u : Tok}
theorem name_join (p : Nat → Bool) : (Str.ofString "r").length + (Txt.join (Str.ofString "") (nameZ p 3)).length ≤ sizeLine := by
  have key : ∀ a b c, (Str.ofString "r").length + (Txt.join (Str.ofString "") (listB a b c)).length ≤ sizeLine := by decide +kernel
  rw [nameZ_eq]; exact key _ _ _
theorem name_add {p : Nat → Bool} (h : ∀ t' k, Q (.str (nameF p) t') { s with toks := k }) : wpAny (model prog w) A (binaryOp .Add (.str (Str.ofString "r") t) (.str (Txt.join (Str.ofString "") (nameZ p 3)) u)) Q E s := SB.add h (name_join p)
end
def toldN (x : Str) : Int := (PySem.intText? x).getD 0
section
variable {ws : List Int} {sg : List Str} {ns xs : List Int} {es : List HE}
theorem es_at (h : es.map heP = (List.range 16).map (entF ws sg ns xs)) : ∀ e ∈ es, ∃ t, t < 16 ∧ heP e = entF ws sg ns xs t := by
  intro e he
  have h1 : heP e ∈ es.map heP := List.mem_map_of_mem he
  rw [h] at h1
  obtain ⟨t, ht, h2⟩ := List.mem_map.mp h1
  exact ⟨t, List.mem_range.mp ht, h2.symm⟩
theorem es_names (h : es.map heP = (List.range 16).map (entF ws sg ns xs)) : ∀ e ∈ es, e.2.1.1.length ≤ 5592405 := by
  intro e he
  obtain ⟨t, ht, h2⟩ := es_at h e he
  have h3 : e.2.1.1 = (entF ws sg ns xs t).1 := congrArg Prod.fst h2
  rw [h3]
  unfold entF
  dsimp only
  split
  · exact name_lenU _
  · exact name_len _
theorem es_len (h : es.map heP = (List.range 16).map (entF ws sg ns xs)) : es.length ≤ sizeLine := by
  have := congrArg List.length h
  rw [List.length_map, List.length_map, List.length_range] at this
  rw [this]; decide
theorem es_texts (h : es.map heP = (List.range 16).map (entF ws sg ns xs)) (nm : Str) : ∀ x ∈ getF nm es, PySem.intText? x = some (toldN x) ∧ x.length ≤ 640 := by
  intro x hx
  unfold getF at hx
  obtain ⟨e, he, rfl⟩ := List.mem_map.mp hx
  obtain ⟨t, ht, h2⟩ := es_at h e (List.mem_filter.mp he).1
  have h3 : e.2.2.1 = (entF ws sg ns xs t).2 := congrArg Prod.snd h2
  rw [h3]
  have hb : (worthT ws ns t).natAbs < 10 ^ 40 := Nat.lt_trans (worthL_bound ns _) (by decide)
  have e1 : PySem.intText? (entF ws sg ns xs t).2 = some (worthT ws ns t) := int_reads hb
  refine ⟨?_, Nat.le_trans (int_len hb) (by decide)⟩
  unfold toldN
  rw [e1]; rfl
theorem getF_len (h : es.map heP = (List.range 16).map (entF ws sg ns xs)) (nm : Str) : (getF nm es).length ≤ sizeLine := by
  unfold getF
  rw [List.length_map]
  exact Nat.le_trans (List.length_filter_le _ _) (es_len h)
end
def oddL : List Int := [0, 1, 1, 0, 1, 0, 0, 1]
def termF (sums span : List Int) (s k : Nat) : Int := sums.getD (span.getD (0 + (k : Int)).toNat 0).toNat 0 * (1 - 2 * oddL.getD (Builtin.bitAnd (0 + (k : Int)) (0 + (s : Int))).toNat 0)
theorem band8 : ∀ k, k < 8 → ∀ s, s < 8 → 0 ≤ Builtin.bitAnd (0 + ((k : Nat) : Int)) (0 + ((s : Nat) : Int)) ∧ Builtin.bitAnd (0 + ((k : Nat) : Int)) (0 + ((s : Nat) : Int)) < 8 := by decide +kernel
theorem xor1616 : ∀ a, a < 16 → ∀ b, b < 16 → 0 ≤ Builtin.bitXor ((a : Nat) : Int) ((b : Nat) : Int) ∧ Builtin.bitXor ((a : Nat) : Int) ((b : Nat) : Int) < 16 := by decide +kernel
theorem xor_in {a b : Int} (ha : 0 ≤ a ∧ a < 16) (hb : 0 ≤ b ∧ b < 16) : 0 ≤ Builtin.bitXor a b ∧ Builtin.bitXor a b < 16 := by
  have e1 : a = ((a.toNat : Nat) : Int) := by omega
  have e2 : b = ((b.toNat : Nat) : Int) := by omega
  rw [e1, e2]; exact xor1616 _ (by omega) _ (by omega)
theorem shift_nat {s j : Nat} : ((0 + (s : Int)).fdiv (2 ^ (0 + (j : Int)).toNat)).fmod 2 = (((s >>> j) % 2 : Nat) : Int) := by
  rw [Int.zero_add, Int.zero_add, Int.toNat_natCast, Nat.shiftRight_eq_div_pow]
  have e : (2 : Int) ^ j = ((2 ^ j : Nat) : Int) := by simp
  rw [e, Int.fdiv_eq_ediv_of_nonneg _ (Int.natCast_nonneg _), Int.fmod_eq_emod_of_nonneg _ (by decide)]
  norm_cast
theorem mask_yes {s j : Nat} (h : ((0 + (s : Int)).fdiv (2 ^ (0 + (j : Int)).toNat)).fmod 2 = 0) : maskP s j = true := by
  rw [shift_nat] at h
  unfold maskP
  exact beq_iff_eq.mpr (by exact_mod_cast h)
theorem mask_no {s j : Nat} (h : ((0 + (s : Int)).fdiv (2 ^ (0 + (j : Int)).toNat)).fmod 2 ≠ 0) : ¬ maskP s j = true := by
  rw [shift_nat] at h
  unfold maskP
  intro e
  exact h (by exact_mod_cast beq_iff_eq.mp e)
theorem odd_small (k : Nat) : Builtin.Int.intBits (1 - 2 * oddL.getD k 0) ≤ 64 := by
  by_cases h : k < 8
  · have key : ∀ k, k < 8 → Builtin.Int.intBits (1 - 2 * oddL.getD k 0) ≤ 64 := by decide +kernel
    exact key k h
  · rw [List.getD_eq_getElem?_getD, List.getElem?_eq_none (by simp [oddL]; omega)]; decide
end
section
-- Span
set_option maxHeartbeats 1000000
def spanF (xs : List Int) : List Int := xs.foldl (fun sp r => sp ++ sp.map fun u => Builtin.bitXor u r) [0]
theorem span_snoc {xs : List Int} {i : Nat} {r : Int} (h : xs[i]? = some r) : spanF (xs.take (i + 1)) = spanF (xs.take i) ++ (spanF (xs.take i)).map fun u => Builtin.bitXor u r := by
  unfold spanF
  rw [List.take_add_one, h]
  simp only [Option.toList, List.foldl_append, List.foldl_cons, List.foldl_nil]
theorem span_len : ∀ xs : List Int, (spanF xs).length = 2 ^ xs.length := by
  have key : ∀ (xs sp : List Int), (xs.foldl (fun sp r => sp ++ sp.map fun u => Builtin.bitXor u r) sp).length = sp.length * 2 ^ xs.length := by
    intro xs
    induction xs with
    | nil => intro sp; simp
    | cons x xs ih => intro sp; rw [List.foldl_cons, ih, List.length_append, List.length_map, List.length_cons, Nat.pow_succ]; generalize 2 ^ xs.length = a; rw [Nat.mul_comm a 2, ← Nat.mul_assoc]; congr 1; omega
  intro xs
  unfold spanF
  rw [key]; simp
theorem span_small {xs : List Int} {i : Nat} (h : xs.length = 3) : (spanF (xs.take i)).length ≤ 8 := by
  rw [span_len, List.length_take, h]
  have : min i 3 ≤ 3 := Nat.min_le_right ..
  exact Nat.le_trans (Nat.pow_le_pow_right (by decide) this) (by decide)
theorem span_in : ∀ (xs : List Int), (∀ z ∈ xs, 0 ≤ z ∧ z < 16) → ∀ v ∈ spanF xs, 0 ≤ v ∧ v < 16 := by
  have key : ∀ (xs sp : List Int), (∀ z ∈ xs, 0 ≤ z ∧ z < 16) → (∀ v ∈ sp, 0 ≤ v ∧ v < 16) → ∀ v ∈ xs.foldl (fun sp r => sp ++ sp.map fun u => Builtin.bitXor u r) sp, 0 ≤ v ∧ v < 16 := by
    intro xs
    induction xs with
    | nil => intro sp _ h; exact h
    | cons x xs ih =>
      intro sp hx h
      rw [List.foldl_cons]
      refine ih _ (fun z hz => hx z (.tail _ hz)) fun v hv => ?_
      rcases List.mem_append.mp hv with q | q
      · exact h v q
      · obtain ⟨u, hu, rfl⟩ := List.mem_map.mp q
        exact xor_in (h u hu) (hx x (.head _))
  intro xs hx
  exact key xs [0] hx (by simp)
theorem span_at {xs : List Int} (hx : ∀ z ∈ xs, 0 ≤ z ∧ z < 16) (k : Nat) : 0 ≤ (spanF xs).getD k 0 ∧ (spanF xs).getD k 0 < 16 := by
  by_cases h : k < (spanF xs).length
  · refine span_in xs hx _ ?_
    rw [List.getD_eq_getElem?_getD, List.getElem?_eq_getElem h]
    exact List.getElem_mem h
  · rw [List.getD_eq_getElem?_getD, List.getElem?_eq_none (by omega)]; decide
theorem span_perm {h₀ h : Heap} {L : Addr} {lsp su ct al ax ad cr cl sh lr lw d8 d9 c9 c8 cs : Addr × Obj} {tl : List (Addr × Obj)} (N : News h₀ L h (lsp :: su :: ct :: al :: ax :: ad :: cr :: cl :: sh :: lr :: lw :: d8 :: d9 :: c9 :: c8 :: cs :: tl)) :
    News h₀ L h (cr :: cs :: lsp :: (su :: ct :: al :: ax :: ad :: cl :: sh :: lr :: lw :: d8 :: d9 :: c9 :: c8 :: tl)) := fun x hx => N x (mem_pick (pre := [lsp, su, ct, al, ax, ad, cr, cl, sh, lr, lw, d8, d9, c9, c8, cs]) (tl := tl) (ks := [6, 15, 0, 1, 2, 3, 4, 5, 7, 8, 9, 10, 11, 12, 13, 14]) x hx)
theorem xor_snoc {xs : List Int} {i : Nat} {y : Int} {f : Int → Int} (h : xs[i]? = some y) : (xs.take (i + 1)).map f = (xs.take i).map f ++ [f y] := by
  rw [List.take_add_one, h]; simp
theorem script_fit {vs : List Value} {ns : List Int} (h : IntsAre vs ns) (hl : ns.length ≤ 63) : (vs.toArray.size : Int) < 2 ^ 63 := by
  rw [List.size_toArray, h.length]; omega
def SpanI (m₀ : Str → Option Value) (cr cs : Addr) (xs : List Int) (tail : List (Addr × Obj)) (I : Addr) (i : Nat) (led : List (Addr × Obj)) (mp : Str → Option Value) : Prop :=
  mp = m₀ ∧ ∃ (orow ospan : Obj) (lsp : Addr) (svs : List Value) (k : Nat) (c1 : Option Value), led = [(cr, orow), (cs, ospan), (lsp, W.listOf svs.toArray k)] ∧ orow.data = .cell c1 ∧ ospan.data = .cell (some (.ref lsp)) ∧ IntsAre svs (spanF (xs.take i)) ∧ @LT.lt Nat _ cr lsp ∧ @LT.lt Nat _ cs lsp ∧ @Ne Nat cr I ∧ @Ne Nat cs I ∧ @Ne Nat lsp I ∧ ∀ p ∈ tail, @LT.lt Nat _ p.1 lsp
def SpanT (m₀ : Str → Option Value) (cr cs : Addr) (xs : List Int) (i : Nat) (tl : List (Addr × Obj)) (led : List (Addr × Obj)) (mp : Str → Option Value) : Prop :=
  mp = m₀ ∧ ∃ (orow ospan : Obj) (lsp : Addr) (svs : List Value) (k : Nat) (c1 : Option Value), led = [(cr, orow), (cs, ospan), (lsp, W.listOf svs.toArray k)] ∧ orow.data = .cell c1 ∧ ospan.data = .cell (some (.ref lsp)) ∧ IntsAre svs (spanF (xs.take i)) ∧ @LT.lt Nat _ cr lsp ∧ @LT.lt Nat _ cs lsp ∧ ∀ p ∈ tl, @LT.lt Nat _ p.1 lsp
theorem span_end {h₀ h' : Heap} {L cr cs lsp : Addr} {s : Shared} {tl all : List (Addr × Obj)} {m : Str → Option Value} {tk k i : Nat} {gs : Array GenState} {orow ospan : Obj} {svs : List Value} {c1 : Option Value} {xs : List Int}
    (F : Fr h₀ L h' m) (N : News h₀ L h' all) (hg : AllBare s.gens → AllBare gs) (m1 : (cr, orow) ∈ all) (m2 : (cs, ospan) ∈ all) (m3 : (lsp, W.listOf svs.toArray k) ∈ all) (hs : ∀ e ∈ tl, e ∈ all) (d1 : orow.data = .cell c1) (d2 : ospan.data = .cell (some (.ref lsp))) (hv : IntsAre svs (spanF (xs.take i))) (l1 : @LT.lt Nat _ cr lsp) (l2 : @LT.lt Nat _ cs lsp) (l3 : ∀ p ∈ tl, @LT.lt Nat _ p.1 lsp) :
    TurnGG h₀ L s tl (SpanT m cr cs xs i tl) .next { s with heap := h', toks := tk, gens := gs } :=
  turnGG [(cr, orow), (cs, ospan), (lsp, W.listOf svs.toArray k)] F N hg (fun e he => by
    simp only [List.cons_append, List.nil_append, List.mem_cons] at he
    rcases he with rfl | rfl | rfl | he
    · exact m1
    · exact m2
    · exact m3
    · exact hs e he) ⟨rfl, orow, ospan, lsp, svs, k, c1, rfl, d1, d2, hv, l1, l2, l3⟩
section
variable {prog : Program} {w : World} {A : Around} {E : Value → Shared → Prop} {s : Shared} {env : Env} {h₀ : Heap} {x : Str} {body : List Stmt} {R : Result → Shared → Prop} {L : Addr}
theorem span_loop {px : Pos} {lr lsp cr cs : Addr} {rvs svs : List Value} {kr k0 : Nat} {xs : List Int} {orow ospan : Obj} {k1 : Option Value} {m : Str → Option Value} {tail : List (Addr × Obj)}
    (hh : A.handled = none) (F : Fr h₀ L s.heap m) (N : News h₀ L s.heap ((cr, orow) :: (cs, ospan) :: (lsp, W.listOf svs.toArray k0) :: tail)) (hmr : (lr, W.listOf rvs.toArray kr) ∈ tail) (hx : IntsAre rvs xs) (hsv : IntsAre svs [0]) (d1 : orow.data = .cell k1) (d2 : ospan.data = .cell (some (.ref lsp))) (l1 : @LT.lt Nat _ cr lsp) (l2 : @LT.lt Nat _ cs lsp)
    (t1 : ∀ e ∈ tail, e.1 ≠ cr) (t2 : ∀ e ∈ tail, e.1 ≠ cs) (t3 : ∀ e ∈ tail, @LT.lt Nat _ e.1 lsp)
    (done : ∀ (orow ospan : Obj) (lsp : Addr) (svs : List Value) (k : Nat) (k1 : Option Value) h tk gs, orow.data = .cell k1 → ospan.data = .cell (some (.ref lsp)) → IntsAre svs (spanF xs) → @LT.lt Nat _ cr lsp → @LT.lt Nat _ cs lsp → (∀ e ∈ tail, @LT.lt Nat _ e.1 lsp) → (AllBare s.gens → AllBare gs) → Fr h₀ L h m → News h₀ L h ((cr, orow) :: (cs, ospan) :: (lsp, W.listOf svs.toArray k) :: tail) → R (.ok .next) { s with heap := h, toks := tk, gens := gs })
    (turn : ∀ i r tr (orow ospan : Obj) (lsp : Addr) (svs : List Value) (k : Nat) (k1 : Option Value) h tk gs tl, xs[i]? = some r → orow.data = .cell k1 → ospan.data = .cell (some (.ref lsp)) → IntsAre svs (spanF (xs.take i)) → @LT.lt Nat _ cr lsp → @LT.lt Nat _ cs lsp → (AllBare s.gens → AllBare gs) → (∀ e ∈ tail, e ∈ tl) → (∀ e ∈ tl, e.1 ≠ cr) → (∀ e ∈ tl, e.1 ≠ cs) → Fr h₀ L h m → News h₀ L h ((cr, orow) :: (cs, ospan) :: (lsp, W.listOf svs.toArray k) :: tl) →
      wpAny (model prog w) A (storeName env x (.int r tr)) (fun _ s₂ => wpAny (model prog w) A (execs body env) (TurnGG h₀ L { s with heap := h, toks := tk, gens := gs } tl (SpanT m cr cs xs (i + 1) tl)) (notedBy (model prog w) A env fun e s' => R (.error e) s') s₂) (notedBy (model prog w) A env fun e s' => R (.error e) s') { s with heap := h, toks := tk, gens := gs }) :
    wpAny (model prog w) A (pyIter (.ref lr)) (fun it s₂ => codeAny (model prog w) A (.forLoop (.Name x px) it body [] env) R s₂) E s := by
  have hmr' := N _ (.tail _ (.tail _ (.tail _ hmr)))
  refine listG (led := [(cr, orow), (cs, ospan), (lsp, W.listOf svs.toArray k0)]) (tail := tail) (SpanI m cr cs xs tail) hh ⟨_, hmr'.1, rfl, _, rfl⟩ hmr'.2.1 F N ?_ ?_ ?_ ?_
  · rintro I i led mp ⟨_, orow, ospan, lsp, svs, k, c1, rfl, _, _, _, _, _, n1, n2, n3, _⟩ p hp
    simp only [List.mem_cons, List.not_mem_nil, or_false] at hp
    rcases hp with rfl | rfl | rfl <;> assumption
  · intro I hI
    exact ⟨rfl, orow, ospan, lsp, svs, k0, k1, rfl, d1, d2, hsv, l1, l2, Nat.ne_of_lt (hI _ (.head _)), Nat.ne_of_lt (hI _ (.tail _ (.head _))), Nat.ne_of_lt (hI _ (.tail _ (.tail _ (.head _)))), t3⟩
  · rintro I led mp h tk gs ⟨e0, orow, ospan, lsp, svs, k, c1, rfl, d1, d2, hs, l1, l2, _, _, _, l3⟩ hg F' N'
    rw [hx.length, List.take_length] at hs
    rw [e0] at F'
    exact done orow ospan lsp svs k c1 h tk gs d1 d2 hs l1 l2 l3 hg F' N'
  · rintro I i v led mp h tk gs tl hv ⟨e0, orow, ospan, lsp, svs, k, c1, rfl, d1, d2, hs, l1, l2, n1, n2, n3, _⟩ hg hsub ⟨oI, hI⟩ hown _ F' N'
    obtain ⟨r, tr, rfl, hr⟩ := hx.at i v hv
    rw [e0] at F'
    refine wpAny_mono (turn i r tr orow ospan lsp svs k c1 h tk gs tl hr d1 d2 hs l1 l2 hg hsub (off_tl hown t1 n1 (t1 _ hmr)) (off_tl hown t2 n2 (t2 _ hmr)) F' N') (fun _ s₂ h₂ => wpAny_mono h₂ (fun fl s₃ h₃ => ?_) fun _ _ e => e) fun _ _ e => e
    have fin : ∀ s₃, EndG h₀ L { s with heap := h, toks := tk, gens := gs } tl (SpanT m cr cs xs (i + 1) tl) s₃ → EndG h₀ L { s with heap := h, toks := tk, gens := gs } tl (SpanI m cr cs xs tail I (i + 1)) s₃ := by
      rintro s₃ ⟨led, mp, h', tk', gs', all, e, hg', F₃, N₃, hs₃, e1, orow, ospan, lsp, svs, k, c1, e2, d1, d2, hs, l1, l2, l3⟩
      exact ⟨led, mp, h', tk', gs', all, e, hg', F₃, N₃, hs₃, e1, orow, ospan, lsp, svs, k, c1, e2, d1, d2, hs, l1, l2, n1, n2, Nat.ne_of_gt (l3 _ hI), fun p hp => l3 p (hsub p hp)⟩
    cases fl with
    | next => exact fin s₃ h₃
    | cont => exact fin s₃ h₃
    | brk => exact h₃
    | ret v => exact h₃
end
end
section
-- SLoop
set_option maxHeartbeats 1000000
section
variable {prog : Program} {w : World} {A : Around} {E : Value → Shared → Prop} {s : Shared} {env : Env} {h₀ : Heap} {x : Str} {body : List Stmt} {R : Result → Shared → Prop} {L : Addr}
/-- a loop by what holds of the frame and of the ledger between the turns; its name may be a cell -/
theorem loop_GO {px : Pos} {PO : Obj → Prop} {I : Addr} {fp wr : List Addr} {n : Nat} {P : Nat → Value → Prop} {St : Nat → Heap → Prop} {m : Str → Option Value} {led tail : List (Addr × Obj)}
    (Inv : Nat → List (Addr × Obj) → (Str → Option Value) → Prop)
    (W : Walks prog w A I fp wr n P St) (hIo : ∀ i h, St i h → ∃ o, h.get? I = some o ∧ PO o) (hIf : I ∈ fp) (hI0 : h₀.get? I = none) (hLf : L ∉ fp) (hwr : ∀ b ∈ wr, h₀.get? b = none) (hst : St 0 s.heap) (F : Fr h₀ L s.heap m) (N : News h₀ L s.heap (led ++ tail))
    (hoff : ∀ p ∈ tail, p.1 ∉ wr) (hLw : ∀ i led mp, Inv i led mp → ∀ p ∈ led, p.1 ∉ wr) (h0 : Inv 0 led m)
    (done : ∀ led mp h tk gs, Inv n led mp → (AllBare s.gens → AllBare gs) → Fr h₀ L h mp → News h₀ L h (led ++ tail) → R (.ok .next) { s with heap := h, toks := tk, gens := gs })
    (turn : ∀ i v led mp h tk gs tl, i < n → P i v → Inv i led mp → (AllBare s.gens → AllBare gs) → (∀ p ∈ tail, p ∈ tl) → (∃ o, (I, o) ∈ tl ∧ PO o) → (∀ p ∈ tl, p ∈ tail ∨ p.1 ∈ fp) → Fr h₀ L h mp → News h₀ L h (led ++ tl) →
      wpAny (model prog w) A (storeName env x v) (fun _ s₂ => wpAny (model prog w) A (execs body env) (TurnGG h₀ L { s with heap := h, toks := tk, gens := gs } tl (Inv (i + 1))) (notedBy (model prog w) A env fun e s' => R (.error e) s') s₂) (notedBy (model prog w) A env fun e s' => R (.error e) s') { s with heap := h, toks := tk, gens := gs }) :
    codeAny (model prog w) A (.forLoop (.Name x px) (.ref I) body [] env) R s := by
  refine codeAny_forLoop_any (fun k s' => ∃ led mp h tk gs i, s' = { s with heap := h, toks := tk, gens := gs } ∧ (AllBare s.gens → AllBare gs) ∧ St i h ∧ Fr h₀ L h mp ∧ News h₀ L h (led ++ tail) ∧ Inv i led mp ∧ i ≤ n ∧ k = n + 1 - i) ?_ (n + 1)
    ⟨led, m, s.heap, s.toks, s.gens, 0, rfl, id, hst, F, N, h0, Nat.zero_le _, rfl⟩
  rintro k s' ⟨led, mp, h, tk, gs, i, rfl, hg, hst', F', N', hi, hle, rfl⟩
  have hLw' : L ∉ wr := fun q => hLf (W.sub _ q)
  have next : ∀ h₁ : Heap, (∀ b o, b ∉ wr → h.get? b = some o → h₁.get? b = some o) → Fr h₀ L h₁ mp ∧ News h₀ L h₁ (led ++ tail) := fun h₁ hk₁ =>
    ⟨⟨F'.ns.at' fun o e => hk₁ _ o hLw' e, fun b o e => hk₁ b o (fun q => by rw [hwr b q] at e; cases e) (F'.keep b o e), F'.above⟩,
      fun p hp => ⟨hk₁ _ _ ((List.mem_append.mp hp).elim (hLw i led mp hi p) (hoff p)) (N' p hp).1, (N' p hp).2⟩⟩
  by_cases hlt : i < n
  · refine W.item i _ _ _ hlt hst' fun v h₁ tk₁ hP hst₁ hk₁ => ?_
    obtain ⟨F₁, N₁⟩ := next h₁ hk₁
    refine letGo_name (wpAny_assign_Name ?_)
    have Nall : News h₀ L h₁ (led ++ (tail ++ ownOf h₀ fp h₁)) := fun p hp => by
      rcases List.mem_append.mp hp with q | q
      · exact N₁ p (List.mem_append_left _ q)
      · rcases List.mem_append.mp q with q | q
        · exact N₁ p (List.mem_append_right _ q)
        · exact news_ownOf hLf p q
    obtain ⟨oI, hoI, hPO⟩ := hIo _ _ hst₁
    refine wpAny_mono (turn i v led mp h₁ tk₁ gs (tail ++ ownOf h₀ fp h₁) hlt hP hi hg (fun p q => List.mem_append_left _ q) ⟨oI, List.mem_append_right _ (mem_ownOf hIf hI0 hoI), hPO⟩ (fun p q => (List.mem_append.mp q).imp id (ownOf_sub p)) F₁ Nall)
      (fun _ s₂ h₂ => wpAny_mono h₂ (fun f s₃ h₃ => ?_) fun _ _ e => e) fun _ _ e => e
    have fin : EndG h₀ L { s with heap := h₁, toks := tk₁, gens := gs } (tail ++ ownOf h₀ fp h₁) (Inv (i + 1)) s₃ → ∃ m, m < n + 1 - i ∧ ∃ led mp h tk gs j, s₃ = { s with heap := h, toks := tk, gens := gs } ∧ (AllBare s.gens → AllBare gs) ∧ St j h ∧ Fr h₀ L h mp ∧ News h₀ L h (led ++ tail) ∧ Inv j led mp ∧ j ≤ n ∧ m = n + 1 - j := by
      rintro ⟨led', mp', h', tk', gs', all, rfl, hg', F₃, N₃, hs, hJ⟩
      refine ⟨n + 1 - (i + 1), by omega, led', mp', h', tk', gs', i + 1, rfl, fun q => hg' (hg q), ?_, F₃, fun p hp => N₃ p (hs p ?_), hJ, hlt, rfl⟩
      · refine W.frame _ _ _ hst₁ fun b hb o e => ?_
        cases hn : h₀.get? b with
        | some o₀ =>
          have : o₀ = o := by have := F₁.keep b o₀ hn; rw [e] at this; exact (Option.some.inj this).symm
          exact this ▸ F₃.keep b o₀ hn
        | none => exact (N₃ _ (hs _ (List.mem_append_right _ (List.mem_append_right _ (mem_ownOf hb hn e))))).1
      · rcases List.mem_append.mp hp with q | q
        · exact List.mem_append_left _ q
        · exact List.mem_append_right _ (List.mem_append_left _ q)
    cases f with
    | next => exact fin h₃
    | cont => exact fin h₃
    | brk => exact h₃.elim
    | ret v => exact h₃.elim
  · have hin : i = n := by omega
    subst hin
    refine W.done _ _ _ hst' fun h₁ tk₁ hk₁ => wpAny_execs_nil ?_
    obtain ⟨F₁, N₁⟩ := next h₁ hk₁
    exact done led mp h₁ tk₁ gs hi hg F₁ N₁
/-- .. over a range by ones -/
theorem rangeGO {px : Pos} {r : Addr} {a b : Int} {t u v : Tok} {n : Nat} {m : Str → Option Value} {led tail : List (Addr × Obj)}
    (Inv : Addr → Nat → List (Addr × Obj) → (Str → Option Value) → Prop) (hh : A.handled = none)
    (hr : IsRange s.heap r a b 1 t u v) (hsm : Builtin.Range.small a b 1 = true) (hn : Builtin.Range.rangeSize a b 1 = ((n : Nat) : Int)) (F : Fr h₀ L s.heap m) (N : News h₀ L s.heap (led ++ tail))
    (hLw : ∀ I i led mp, Inv I i led mp → ∀ p ∈ led, p.1 ≠ I) (h0 : ∀ I, (∀ p ∈ led ++ tail, p.1 < I) → Inv I 0 led m)
    (done : ∀ I led mp h tk gs, Inv I n led mp → (AllBare s.gens → AllBare gs) → Fr h₀ L h mp → News h₀ L h (led ++ tail) → R (.ok .next) { s with heap := h, toks := tk, gens := gs })
    (turn : ∀ I i t led mp h tk gs tl, i < n → Inv I i led mp → (AllBare s.gens → AllBare gs) → (∀ p ∈ tail, p ∈ tl) → (∃ o, (I, o) ∈ tl ∧ ∃ x y z : Int, o.data = .fields #[rawInt x, rawInt y, rawInt z]) → (∀ p ∈ tl, p ∈ tail ∨ p.1 = I) → (∀ p ∈ led ++ tail, p.1 ≠ I) → Fr h₀ L h mp → News h₀ L h (led ++ tl) →
      wpAny (model prog w) A (storeName env x (.int (a + (i : Int)) t)) (fun _ s₂ => wpAny (model prog w) A (execs body env) (TurnGG h₀ L { s with heap := h, toks := tk, gens := gs } tl (Inv I (i + 1))) (notedBy (model prog w) A env fun e s' => R (.error e) s') s₂) (notedBy (model prog w) A env fun e s' => R (.error e) s') { s with heap := h, toks := tk, gens := gs }) :
    wpAny (model prog w) A (pyIter (.ref r)) (fun it s₂ => codeAny (model prog w) A (.forLoop (.Name x px) it body [] env) R s₂) E s := by
  have hlt : ∀ p ∈ led ++ tail, p.1 < s.heap.objs.size := fun p hp => Heap.lt_size (N p hp).1
  have hne : ∀ p ∈ tail, p.1 ≠ s.heap.objs.size := fun p hp => Nat.ne_of_lt (hlt p (List.mem_append_right _ hp))
  refine wpAny_pyIter_range hr hsm ?_
  refine loop_GO (PO := fun o => ∃ x y z : Int, o.data = .fields #[rawInt x, rawInt y, rawInt z]) (s := { s with heap := s.heap.push _ }) (Inv s.heap.objs.size) (Walks.range (prog := prog) (w := w) hh s.heap.objs.size a 1 n) (fun i h st => ⟨_, st, _, _, _, rfl⟩) (List.mem_singleton.mpr rfl) (next_is_new F) (fun hmm => absurd F.ns.lt ((List.mem_singleton.mp hmm) ▸ Nat.lt_irrefl _)) (fun b hb => (List.mem_singleton.mp hb) ▸ next_is_new F) ?_ (F.push _)
    (fun p hp => ⟨Heap.get?_push_of_some _ (N p hp).1, (N p hp).2⟩) (fun p hp q => hne p hp (List.mem_singleton.mp q)) (fun i led mp hi p hp q => hLw _ i led mp hi p hp (List.mem_singleton.mp q)) (h0 _ hlt) (fun led mp h tk gs hi hg F' N' => done _ led mp h tk gs hi hg F' N') ?_
  · show IsRangeIter _ _ _ _ _
    rw [hn]
    simpa using Heap.get?_push_size _ rfl
  · rintro i v led mp h tk gs tl hi ⟨t, rfl⟩ hJ hg hsub hI hown F' N'
    have := turn s.heap.objs.size i t led mp h tk gs tl hi hJ hg hsub hI (fun p hp => (hown p hp).imp id fun q => List.mem_singleton.mp q) (fun p hp => by
      rcases List.mem_append.mp hp with q | q
      · exact hLw _ i led mp hJ p q
      · exact hne p q) F' N'
    simpa using this
end
theorem fr_four {m mp : Str → Option Value} {n1 n2 n3 n4 : Str} (h : ∀ y, y ≠ n1 → y ≠ n2 → y ≠ n3 → y ≠ n4 → mp y = m y) : mp = fun y => if y = n1 then mp n1 else if y = n2 then mp n2 else if y = n3 then mp n3 else if y = n4 then mp n4 else m y := by
  funext y
  by_cases e1 : y = n1
  · rw [if_pos e1, e1]
  · rw [if_neg e1]
    by_cases e2 : y = n2
    · rw [if_pos e2, e2]
    · rw [if_neg e2]
      by_cases e3 : y = n3
      · rw [if_pos e3, e3]
      · rw [if_neg e3]
        by_cases e4 : y = n4
        · rw [if_pos e4, e4]
        · rw [if_neg e4, h y e1 e2 e3 e4]
def But4 (m mp : Str → Option Value) (n1 n2 n3 n4 : Str) : Prop := ∀ y, y ≠ n1 → y ≠ n2 → y ≠ n3 → y ≠ n4 → mp y = m y
/-- two inner codes -/
def CodesAre (cs : List (Addr × Obj)) : Prop := ∀ p ∈ cs, ∃ (vs : Array Value) (q : Str) (t : Tok), p.2.data = .fields vs ∧ vs[1]? = some (.str q t)
def SI (m : Str → Option Value) (n1 n2 n3 n4 : Str) (cs : Addr) (I : Addr) (_i : Nat) (led : List (Addr × Obj)) (mp : Str → Option Value) : Prop :=
  But4 m mp n1 n2 n3 n4 ∧ ∃ (os : Obj) (c : Option Value) (psI psD : Array Value) (codes : List (Addr × Obj)), led = (cs, os) :: (68, tabObj psI) :: (75, tabObj psD) :: codes ∧ os.data = .cell c ∧ St2 psI psD codes ∧ (∀ p ∈ codes, p.1 ≠ cs) ∧ (∀ p ∈ codes, p.1 ≠ I) ∧ @Ne Nat cs I ∧ @LT.lt Nat _ 75 I ∧ @LT.lt Nat _ 68 I
def ST (m : Str → Option Value) (n1 n2 n3 n4 : Str) (cs : Addr) (led : List (Addr × Obj)) (mp : Str → Option Value) : Prop :=
  But4 m mp n1 n2 n3 n4 ∧ ∃ (os : Obj) (c : Option Value) (psI psD : Array Value) (codes : List (Addr × Obj)), led = (cs, os) :: (68, tabObj psI) :: (75, tabObj psD) :: codes ∧ os.data = .cell c ∧ St2 psI psD codes ∧ CodesAre codes
theorem code_ne {h₀ h : Heap} {L b : Addr} {all : List (Addr × Obj)} {o : Obj} {p : Addr × Obj} {vs : Array Value} {q : Str} {t : Tok} (N : News h₀ L h all) (hp : p ∈ all) (hb : (b, o) ∈ all) (hd : p.2.data = .fields vs) (hv : vs[1]? = some (.str q t)) (ho : (∃ c, o.data = .cell c) ∨ ∃ x y z : Int, o.data = .fields #[rawInt x, rawInt y, rawInt z]) : p.1 ≠ b := by
  intro e
  have h1 := (N _ hp).1
  have h2 := (N _ hb).1
  rw [e] at h1
  have h3 : p.2 = o := Option.some.inj (h1.symm.trans h2)
  rw [h3] at hd
  rcases ho with ⟨c, hc⟩ | ⟨x, y, z, hc⟩
  · rw [hd] at hc; cases hc
  · rw [hd] at hc
    have e2 : vs = #[rawInt x, rawInt y, rawInt z] := by injection hc
    rw [e2] at hv
    simp [rawInt] at hv
theorem tabSt_sub {line col : Int} {qual : Str} {P : Addr} {ps : Array Value} {a b : List (Addr × Obj)} (h : TabSt line col qual P ps a) (hs : ∀ p ∈ a, p ∈ b) : TabSt line col qual P ps b := by
  rcases h with h | ⟨c, oc, vs, t, h1, h2, h3⟩
  · exact .inl h
  · exact .inr ⟨c, oc, vs, t, h1, hs _ h2, h3⟩
theorem st2_app {psI psD : Array Value} {codes tl : List (Addr × Obj)} (h : St2 psI psD codes) (ht : ∀ p ∈ tl, @LT.lt Nat _ 75 p.1) : St2 psI psD (codes ++ tl) :=
  ⟨tabSt_sub h.1 fun _ hp => List.mem_append_left _ hp, tabSt_sub h.2.1 fun _ hp => List.mem_append_left _ hp, fun p hp => (List.mem_append.mp hp).elim (h.2.2 p) (ht p)⟩
theorem st2_cons {psI psD : Array Value} {tl : List (Addr × Obj)} {c : Addr} {o : Obj} (h : St2 psI psD tl) (hc : @LT.lt Nat _ 75 c) : St2 psI psD ((c, o) :: tl) :=
  ⟨tabSt_sub h.1 fun _ hp => .tail _ hp, tabSt_sub h.2.1 fun _ hp => .tail _ hp, fun p hp => (List.mem_cons.mp hp).elim (fun e => e ▸ hc) (h.2.2 p)⟩
theorem st2_new {cI cD : Addr} {oI oD : Obj} {vI vD : Array Value} {tI tD : Tok} (h1 : oI.data = .fields vI) (h2 : vI[1]? = some (.str (Str.ofString "_int2digits.<locals>.inner") tI)) (h3 : oD.data = .fields vD) (h4 : vD[1]? = some (.str (Str.ofString "_digits2int.<locals>.inner") tD)) (h5 : @LT.lt Nat _ 75 cI) (h6 : @LT.lt Nat _ 75 cD) :
    St2 #[rawInt 68, rawInt 4, .ref cI] #[rawInt 83, rawInt 4, .ref cD] [(cI, oI), (cD, oD)] ∧ CodesAre [(cI, oI), (cD, oD)] := by
  refine ⟨⟨.inr ⟨cI, oI, vI, tI, rfl, .head _, h1, h2, h5⟩, .inr ⟨cD, oD, vD, tD, rfl, .tail _ (.head _), h3, h4, h6⟩, fun p hp => ?_⟩, fun p hp => ?_⟩
  · simp only [List.mem_cons, List.not_mem_nil, or_false] at hp
    rcases hp with rfl | rfl
    · exact h5
    · exact h6
  · simp only [List.mem_cons, List.not_mem_nil, or_false] at hp
    rcases hp with rfl | rfl
    · exact ⟨_, _, _, h1, h2⟩
    · exact ⟨_, _, _, h3, h4⟩
theorem s_end {h₀ h' : Heap} {L cs cI cD : Addr} {s : Shared} {tl all : List (Addr × Obj)} {m mp : Str → Option Value} {n1 n2 n3 n4 : Str} {tk : Nat} {gs : Array GenState} {os oI oD : Obj} {c : Option Value} {vI vD : Array Value} {tI tD : Tok}
    (F : Fr h₀ L h' mp) (N : News h₀ L h' all) (hg : AllBare s.gens → AllBare gs) (hm : But4 m mp n1 n2 n3 n4) (m1 : (cs, os) ∈ all) (m2 : (68, tabObj #[rawInt 68, rawInt 4, .ref cI]) ∈ all) (m3 : (75, tabObj #[rawInt 83, rawInt 4, .ref cD]) ∈ all) (m4 : (cI, oI) ∈ all) (m5 : (cD, oD) ∈ all) (hs : ∀ e ∈ tl, e ∈ all) (d : os.data = .cell c)
    (h1 : oI.data = .fields vI) (h2 : vI[1]? = some (.str (Str.ofString "_int2digits.<locals>.inner") tI)) (h3 : oD.data = .fields vD) (h4 : vD[1]? = some (.str (Str.ofString "_digits2int.<locals>.inner") tD)) (h5 : @LT.lt Nat _ 75 cI) (h6 : @LT.lt Nat _ 75 cD) :
    TurnGG h₀ L s tl (ST m n1 n2 n3 n4 cs) .next { s with heap := h', toks := tk, gens := gs } := by
  obtain ⟨k1, k2⟩ := st2_new h1 h2 h3 h4 h5 h6
  refine turnGG _ F N hg (fun p hp => ?_) ⟨hm, os, c, _, _, _, rfl, d, k1, k2⟩
  simp only [List.cons_append, List.nil_append, List.mem_cons] at hp
  rcases hp with rfl | rfl | rfl | rfl | rfl | hp
  · exact m1
  · exact m2
  · exact m3
  · exact m4
  · exact m5
  · exact hs p hp
theorem s_perm {h₀ h : Heap} {L : Addr} {od cr cs lsp su ct al ax ad cl sh lr lw d8 d9 c9 c8 c6 c3 c2 p q : Addr × Obj} {tl : List (Addr × Obj)} (N : News h₀ L h (od :: cr :: cs :: lsp :: su :: ct :: al :: ax :: ad :: cl :: sh :: lr :: lw :: d8 :: d9 :: c9 :: c8 :: c6 :: c3 :: c2 :: p :: q :: tl)) :
    News h₀ L h (c9 :: q :: p :: (od :: cr :: cs :: lsp :: su :: ct :: al :: ax :: ad :: cl :: sh :: lr :: lw :: c8 :: c6 :: c3 :: c2 :: tl)) := fun x hx => N x (mem_pick (pre := [od, cr, cs, lsp, su, ct, al, ax, ad, cl, sh, lr, lw, d8, d9, c9, c8, c6, c3, c2, p, q]) (tl := tl) (ks := [15, 21, 20, 0, 1, 2, 3, 4, 5, 6, 7, 8, 9, 10, 11, 12, 16, 17, 18, 19]) x hx)
theorem es_gt {es : List HE} {al c : Addr} (h : ∀ e ∈ es, @LT.lt Nat _ al e.1) (hc : @LT.lt Nat _ c al) : ∀ p ∈ es.map heO, @LT.lt Nat _ c p.1 := by
  intro p hp
  obtain ⟨e, he, rfl⟩ := List.mem_map.mp hp
  exact Nat.lt_trans hc (h e he)
section
variable {prog : Program} {w : World} {A : Around} {E : Value → Shared → Prop} {s : Shared} {env : Env} {h₀ : Heap} {x : Str} {body : List Stmt} {R : Result → Shared → Prop} {L : Addr}
theorem s_loop {px : Pos} {u1 u2 u3 : Tok} {m : Str → Option Value} {cs r : Addr} {os : Obj} {c0 : Option Value} {tail : List (Addr × Obj)} (n1 n2 n3 n4 : Str)
    (hh : A.handled = none) (hr : IsRange s.heap r 0 8 1 u1 u2 u3) (F : Fr h₀ L s.heap m) (N : News h₀ L s.heap ((cs, os) :: (68, tabObj #[]) :: (75, tabObj #[]) :: tail)) (d : os.data = .cell c0)
    (t1 : ∀ e ∈ tail, e.1 ≠ cs) (t2 : ∀ e ∈ tail, @LT.lt Nat _ 75 e.1)
    (done : ∀ u1 u2 u3 u4 psI psD h tk gs, (AllBare s.gens → AllBare gs) → Fr h₀ L h (fun y => if y = n1 then u1 else if y = n2 then u2 else if y = n3 then u3 else if y = n4 then u4 else m y) → News h₀ L h [(68, tabObj psI), (75, tabObj psD)] → R (.ok .next) { s with heap := h, toks := tk, gens := gs })
    (turn : ∀ (i : Nat) tt (os : Obj) (c : Option Value) u1 u2 u3 u4 psI psD h tk gs tl, i < 8 → os.data = .cell c → St2 psI psD tl → (AllBare s.gens → AllBare gs) → (∀ e ∈ tail, e ∈ tl) → (∀ e ∈ tl, e.1 ≠ cs) → Fr h₀ L h (fun y => if y = n1 then u1 else if y = n2 then u2 else if y = n3 then u3 else if y = n4 then u4 else m y) → News h₀ L h ((cs, os) :: (68, tabObj psI) :: (75, tabObj psD) :: tl) →
      wpAny (model prog w) A (storeName env x (.int (0 + (i : Int)) tt)) (fun _ s₂ => wpAny (model prog w) A (execs body env) (TurnGG h₀ L { s with heap := h, toks := tk, gens := gs } tl (ST m n1 n2 n3 n4 cs)) (notedBy (model prog w) A env fun e s' => R (.error e) s') s₂) (notedBy (model prog w) A env fun e s' => R (.error e) s') { s with heap := h, toks := tk, gens := gs }) :
    wpAny (model prog w) A (pyIter (.ref r)) (fun it s₂ => codeAny (model prog w) A (.forLoop (.Name x px) it body [] env) R s₂) E s := by
  refine rangeGO (n := 8) (led := [(cs, os), (68, tabObj #[]), (75, tabObj #[])]) (tail := tail) (SI m n1 n2 n3 n4 cs) hh hr (by rfl) (by rfl) F N ?_ ?_ ?_ ?_
  · rintro I i led mp ⟨_, os, c, psI, psD, codes, rfl, _, _, _, c2, n1, n2, n3⟩ p hp
    simp only [List.mem_cons] at hp
    rcases hp with rfl | rfl | rfl | hp
    · exact n1
    · exact Nat.ne_of_lt n3
    · exact Nat.ne_of_lt n2
    · exact c2 p hp
  · intro I hI
    exact ⟨fun _ _ _ _ _ => rfl, os, c0, #[], #[], [], rfl, d, ⟨.inl rfl, .inl rfl, fun _ h => nomatch h⟩, (fun _ h => nomatch h), (fun _ h => nomatch h), Nat.ne_of_lt (hI _ (.head _)), hI _ (.tail _ (.tail _ (.head _))), hI _ (.tail _ (.head _))⟩
  · rintro I led mp h tk gs ⟨hm, os, c, psI, psD, codes, rfl, _⟩ hg F' N'
    rw [fr_four hm] at F'
    refine done _ _ _ _ psI psD h tk gs hg F' fun p hp => N' p ?_
    simp only [List.mem_cons, List.not_mem_nil, or_false] at hp
    rcases hp with rfl | rfl
    · exact .tail _ (.head _)
    · exact .tail _ (.tail _ (.head _))
  · rintro I i tt led mp h tk gs tl hi ⟨hm, os, c, psI, psD, codes, rfl, d, hst, c1, c2, k1, k2, k3⟩ hg hsub ⟨oI, hI, hID⟩ hown hneI F' N'
    rw [fr_four hm] at F'
    have hcs : ∀ e ∈ codes ++ tl, e.1 ≠ cs := by
      intro e hm
      rcases List.mem_append.mp hm with q | q
      · exact c1 e q
      · rcases hown e q with q | q
        · exact t1 e q
        · rw [q]; exact k1.symm
    have hPD : ∀ e ∈ tl, @LT.lt Nat _ 75 e.1 := by
      intro e q
      rcases hown e q with q | q
      · exact t2 e q
      · rw [q]; exact k2
    have key := turn i tt os c _ _ _ _ psI psD h tk gs (codes ++ tl) hi d (st2_app hst hPD) hg (fun e q => List.mem_append_right _ (hsub e q)) hcs F' (by simpa using N')
    refine wpAny_mono key (fun _ s₂ h₂ => wpAny_mono h₂ (fun fl s₃ h₃ => ?_) fun _ _ e => e) fun _ _ e => e
    have fin : ∀ s₃, EndG h₀ L { s with heap := h, toks := tk, gens := gs } (codes ++ tl) (ST m n1 n2 n3 n4 cs) s₃ → EndG h₀ L { s with heap := h, toks := tk, gens := gs } tl (SI m n1 n2 n3 n4 cs I (i + 1)) s₃ := by
      rintro s₃ ⟨led, mp, h', tk', gs', all, e, hg', F₃, N₃, hs₃, hm', os, c, psI, psD, codes', rfl, d, hst', hcd⟩
      have hall : ∀ p ∈ codes', p ∈ all := fun p hp => hs₃ p (List.mem_append_left _ (.tail _ (.tail _ (.tail _ hp))))
      have hcm : (cs, os) ∈ all := hs₃ _ (List.mem_append_left _ (.head _))
      have hIm : (I, oI) ∈ all := hs₃ _ (List.mem_append_right _ (List.mem_append_right _ hI))
      refine ⟨_, mp, h', tk', gs', all, e, hg', F₃, N₃, ?_, hm', os, c, psI, psD, codes', rfl, d, hst', ?_, ?_, k1, k2, k3⟩
      · intro p hp
        rcases List.mem_append.mp hp with q | q
        · exact hs₃ p (List.mem_append_left _ q)
        · exact hs₃ p (List.mem_append_right _ (List.mem_append_right _ q))
      · intro p hp
        obtain ⟨vs, q, t, e1, e2⟩ := hcd p hp
        exact code_ne N₃ (hall p hp) hcm e1 e2 (.inl ⟨c, d⟩)
      · intro p hp
        obtain ⟨vs, q, t, e1, e2⟩ := hcd p hp
        exact code_ne N₃ (hall p hp) hIm e1 e2 (.inr hID)
    cases fl with
    | next => exact fin s₃ h₃
    | cont => exact fin s₃ h₃
    | brk => exact h₃
    | ret v => exact h₃
end
end
section
-- Fin
set_option maxHeartbeats 1000000
theorem dm_law {T s fac : Int} (hs : 0 ≤ s) (hs8 : s < 8) (hf : fac ≠ 0) : ((8 * T + s) * fac).fdiv (8 * fac) = T ∧ ((8 * T + s) * fac).fmod (8 * fac) = s * fac := by
  have key : ∀ T s fac : Int, 0 ≤ s → s < 8 → 0 < fac → ((8 * T + s) * fac).fdiv (8 * fac) = T ∧ ((8 * T + s) * fac).fmod (8 * fac) = s * fac := by
    intro T s fac hs hs8 hf
    refine fdm_unique (Int.mul_pos (by decide) hf) ?_ (Int.mul_nonneg hs (Int.le_of_lt hf)) (Int.mul_lt_mul_of_pos_right hs8 hf)
    rw [Int.add_mul, ← Int.mul_assoc, Int.mul_comm T 8]
  by_cases h : 0 < fac
  · exact key T s fac hs hs8 h
  · have hn : 0 < -fac := by omega
    obtain ⟨k1, k2⟩ := key T s (-fac) hs hs8 hn
    have e1 : (8 * T + s) * fac = -((8 * T + s) * -fac) := by rw [Int.mul_neg, Int.neg_neg]
    have e2 : 8 * fac = -(8 * -fac) := by rw [Int.mul_neg, Int.neg_neg]
    refine ⟨?_, ?_⟩
    · rw [e1, e2, Int.neg_fdiv_neg]; exact k1
    · rw [e1, e2, Int.neg_fmod_neg, k2, Int.mul_neg, Int.neg_neg]
theorem bits_abs {x : Int} {k : Nat} (h : x.natAbs < 2 ^ k) : Builtin.Int.intBits x ≤ k := intBits_le_iff.mpr h
theorem fin_facts {total told s fac : Int} (h8 : total = 8 * told) (hs : 0 ≤ s) (hs8 : s < 8) (hf : fac ≠ 0) (hfb : fac.natAbs < 2 ^ 120) (htb : told.natAbs < 2 ^ 120) :
    IntMulOk (total + s) fac ∧ IntMulOk 8 fac ∧ IntMulOk s fac ∧ 8 * fac ≠ 0 ∧ Builtin.Int.intBits (8 * fac) ≤ 4000 ∧ (Builtin.Int.intBits ((total + s) * fac) : Int) ≤ 100 * (Builtin.Int.intBits (8 * fac) : Int) ∧ ((total + s) * fac).fdiv (8 * fac) = told ∧ ((total + s) * fac).fmod (8 * fac) = s * fac := by
  subst h8
  have b1 : Builtin.Int.intBits fac ≤ 120 := bits_abs (by omega)
  have b2 : Builtin.Int.intBits (8 * told + s) ≤ 124 := bits_abs (by
    have : (8 * told + s).natAbs ≤ 8 * told.natAbs + 8 := by omega
    omega)
  have b3 : Builtin.Int.intBits (8 * fac) ≤ 123 := bits_abs (by omega)
  have b4 : 4 ≤ Builtin.Int.intBits (8 * fac) := by
    refine Nat.le_of_not_lt fun h => ?_
    have := lt_bits (x := 8 * fac) (k := 3) (by omega)
    omega
  have b5 : Builtin.Int.intBits ((8 * told + s) * fac) ≤ 244 := bits_abs (by
    rw [Int.natAbs_mul]
    have h1 : (8 * told + s).natAbs < 2 ^ 124 := by
      have : (8 * told + s).natAbs ≤ 8 * told.natAbs + 8 := by omega
      omega
    calc (8 * told + s).natAbs * fac.natAbs < 2 ^ 124 * 2 ^ 120 := Nat.mul_lt_mul_of_lt_of_le h1 (Nat.le_of_lt hfb) (by decide)
      _ = 2 ^ 244 := by decide)
  have hb : Builtin.Int.intBits s ≤ 64 := Nat.le_trans (bits_lt (k := 3) hs (by omega)) (by decide)
  refine ⟨mulOk b2 b1 (by decide), IntMulOk.of_left (by decide), IntMulOk.of_left hb, ?_, by omega, by omega, dm_law hs hs8 hf⟩
  omega
def facF (ns : List Int) (n : Nat) : Int := (1000003 + (if ns.sum < 0 then -ns.sum else ns.sum).fmod (10 ^ Int.toNat 30)) * (1 - 2 * ((n : Nat) : Int).fmod 2)
theorem fac_facts (ns : List Int) (n : Nat) : facF ns n ≠ 0 ∧ (facF ns n).natAbs < 2 ^ 120 := by
  unfold facF
  have h1 : (0 : Int) ≤ (if ns.sum < 0 then -ns.sum else ns.sum).fmod (10 ^ Int.toNat 30) := Int.fmod_nonneg_of_pos _ (by decide)
  have e3 : (10 : Int) ^ Int.toNat 30 = 1000000000000000000000000000000 := by decide
  have h2 : (if ns.sum < 0 then -ns.sum else ns.sum).fmod (10 ^ Int.toNat 30) < 1000000000000000000000000000000 := Int.lt_of_lt_of_le (Int.fmod_lt_of_pos _ (by decide)) (Int.le_of_eq e3)
  generalize hx : (if ns.sum < 0 then -ns.sum else ns.sum).fmod (10 ^ Int.toNat 30) = x at h1 h2 ⊢
  have h3 : ((n : Nat) : Int).fmod 2 = 0 ∨ ((n : Nat) : Int).fmod 2 = 1 := by
    have a1 : (0 : Int) ≤ ((n : Nat) : Int).fmod 2 := Int.fmod_nonneg_of_pos _ (by decide)
    have a2 : ((n : Nat) : Int).fmod 2 < 2 := Int.fmod_lt_of_pos _ (by decide)
    omega
  have h4 : (2 : Nat) ^ 120 = 1329227995784915872903807060280344576 := by decide
  have e0 : (1 - 2 * (0 : Int)) = 1 := rfl
  have e1 : (1 - 2 * (1 : Int)) = -1 := rfl
  rcases h3 with h | h <;> rw [h]
  · rw [e0, Int.mul_one]; constructor <;> omega
  · rw [e1, Int.mul_neg, Int.mul_one]; constructor <;> omega
theorem news_three {h₀ h : Heap} {L : Addr} {a b c : Addr × Obj} {tl all : List (Addr × Obj)} (N : News h₀ L h all) (m1 : a ∈ all) (m2 : b ∈ all) (m3 : c ∈ all) (hs : ∀ p ∈ tl, p ∈ all) : News h₀ L h (a :: b :: c :: tl) := fun p hp => N p (by
  simp only [List.mem_cons] at hp
  rcases hp with rfl | rfl | rfl | hp
  · exact m1
  · exact m2
  · exact m3
  · exact hs p hp)
theorem told_snoc {xs : List Str} {ys : List Value} {i : Nat} {y : Str} {t : Tok} (h : xs[i]? = some y) (hy : IntsAre ys ((xs.map toldN).take i)) : IntsAre (ys ++ [.int (toldN y) t]) ((xs.map toldN).take (i + 1)) := by
  rw [List.take_add_one, List.getElem?_map, h]
  exact ints_snoc hy
end
section
-- Plain
set_option maxHeartbeats 4000000
theorem sum_mul (l : List Nat) (f : Nat → Int) (c : Int) : (l.map f).sum * c = (l.map fun v => f v * c).sum := by
  induction l with
  | nil => simp
  | cons x l ih => simp only [List.map_cons, List.sum_cons, Int.add_mul, ih]
theorem sum_congr (l : List Nat) {f g : Nat → Int} (h : ∀ v ∈ l, f v = g v) : (l.map f).sum = (l.map g).sum := by rw [List.map_congr_left h]
theorem sum_bound (l : List Nat) {f : Nat → Int} {B : Nat} (h : ∀ v, (f v).natAbs ≤ B) : (l.map f).sum.natAbs ≤ l.length * B := by
  induction l with
  | nil => simp
  | cons x l ih =>
    simp only [List.map_cons, List.sum_cons, List.length_cons]
    have := h x
    have h2 := Int.natAbs_add_le (f x) (l.map f).sum
    rw [Nat.add_mul]; omega
/-- the sign of a choice of rows against a name's number -/
def E (s k : Nat) : Int := 1 - 2 * oddL.getD (Builtin.bitAnd (0 + (k : Int)) (0 + (s : Int))).toNat 0
abbrev MatchP (s : Nat) (p q r : Int) : Prop := (p == 1) = maskP s 0 ∧ (q == 1) = maskP s 1 ∧ (r == 1) = maskP s 2
theorem pois_c : ∀ s, s < 8 → ∀ p ∈ ([1, -1] : List Int), ∀ q ∈ ([1, -1] : List Int), ∀ r ∈ ([1, -1] : List Int), 1 * E s 0 + (p * E s 1 + (q * E s 2 + (p * q * E s 3 + (r * E s 4 + (p * r * E s 5 + (q * r * E s 6 + p * q * r * E s 7)))))) = if MatchP s p q r then 8 else 0 := by decide +kernel
theorem pm_mem {p : Int} (h : p = 1 ∨ p = -1) : p ∈ ([1, -1] : List Int) := by
  rcases h with rfl | rfl
  · exact .head _
  · exact .tail _ (.head _)
theorem pois_one {s : Nat} (hs : s < 8) (a p q r : Int) (hp : p = 1 ∨ p = -1) (hq : q = 1 ∨ q = -1) (hr : r = 1 ∨ r = -1) : 1 * a * E s 0 + (p * a * E s 1 + (q * a * E s 2 + (p * q * a * E s 3 + (r * a * E s 4 + (p * r * a * E s 5 + (q * r * a * E s 6 + (p * q * r * a * E s 7 + 0))))))) = if MatchP s p q r then 8 * a else 0 := by
  have h := pois_c s hs p (pm_mem hp) q (pm_mem hq) r (pm_mem hr)
  have e : 1 * a * E s 0 + (p * a * E s 1 + (q * a * E s 2 + (p * q * a * E s 3 + (r * a * E s 4 + (p * r * a * E s 5 + (q * r * a * E s 6 + (p * q * r * a * E s 7 + 0))))))) = a * (1 * E s 0 + (p * E s 1 + (q * E s 2 + (p * q * E s 3 + (r * E s 4 + (p * r * E s 5 + (q * r * E s 6 + p * q * r * E s 7))))))) := by
    generalize E s 0 = e0; generalize E s 1 = e1; generalize E s 2 = e2; generalize E s 3 = e3; generalize E s 4 = e4; generalize E s 5 = e5; generalize E s 6 = e6; generalize E s 7 = e7
    grind
  rw [e, h]
  by_cases hm : MatchP s p q r
  · rw [if_pos hm, if_pos hm, Int.mul_comm]
  · rw [if_neg hm, if_neg hm, Int.mul_zero]
theorem xor_nat : ∀ a, a < 16 → ∀ b, b < 16 → Builtin.bitXor ((a : Nat) : Int) ((b : Nat) : Int) = ((a ^^^ b : Nat) : Int) := by decide +kernel
theorem xor_lt : ∀ a, a < 16 → ∀ b, b < 16 → a ^^^ b < 16 := by decide +kernel
theorem span3 {X Y Z : Nat} (hX : X < 16) (hY : Y < 16) (hZ : Z < 16) : spanF [(X : Int), (Y : Int), (Z : Int)] = [((0 : Nat) : Int), ((0 ^^^ X : Nat) : Int), ((0 ^^^ Y : Nat) : Int), ((0 ^^^ X ^^^ Y : Nat) : Int), ((0 ^^^ Z : Nat) : Int), ((0 ^^^ X ^^^ Z : Nat) : Int), ((0 ^^^ Y ^^^ Z : Nat) : Int), ((0 ^^^ X ^^^ Y ^^^ Z : Nat) : Int)] := by
  have hz : (0 : Nat) < 16 := by decide
  have e : spanF [(X : Int), (Y : Int), (Z : Int)] = [((0 : Nat) : Int), Builtin.bitXor ((0 : Nat) : Int) X, Builtin.bitXor ((0 : Nat) : Int) Y, Builtin.bitXor (Builtin.bitXor ((0 : Nat) : Int) X) Y, Builtin.bitXor ((0 : Nat) : Int) Z, Builtin.bitXor (Builtin.bitXor ((0 : Nat) : Int) X) Z, Builtin.bitXor (Builtin.bitXor ((0 : Nat) : Int) Y) Z, Builtin.bitXor (Builtin.bitXor (Builtin.bitXor ((0 : Nat) : Int) X) Y) Z] := rfl
  have hX0 := xor_lt 0 hz X hX
  have hY0 := xor_lt 0 hz Y hY
  have hXY := xor_lt _ hX0 Y hY
  rw [e, xor_nat 0 hz X hX, xor_nat 0 hz Y hY, xor_nat 0 hz Z hZ, xor_nat _ hX0 Y hY, xor_nat _ hX0 Z hZ, xor_nat _ hY0 Z hZ, xor_nat _ hXY Z hZ]
/-- the eight sums with their signs -/
theorem total_eq {aL : List Int} (ha : aL.length = 16) {X Y Z s : Nat} (hX : X < 16) (hY : Y < 16) (hZ : Z < 16) (hs : s < 8) :
    ((List.range 8).map (termF (walshF aL) (spanF [(X : Int), (Y : Int), (Z : Int)]) s)).sum = ((List.range 16).map fun v => if MatchP s (sgn X v) (sgn Y v) (sgn Z v) then 8 * aL.getD v 0 else 0).sum := by
  have hz : (0 : Nat) < 16 := by decide
  have hX0 := xor_lt 0 hz X hX
  have hY0 := xor_lt 0 hz Y hY
  have hZ0 := xor_lt 0 hz Z hZ
  have hXY := xor_lt _ hX0 Y hY
  have hXZ := xor_lt _ hX0 Z hZ
  have hYZ := xor_lt _ hY0 Z hZ
  have hXYZ := xor_lt _ hXY Z hZ
  have e0 : ∀ (k U : Nat), U < 16 → ((spanF [(X : Int), (Y : Int), (Z : Int)]).getD (0 + (k : Int)).toNat 0).toNat = U → termF (walshF aL) (spanF [(X : Int), (Y : Int), (Z : Int)]) s k = ((List.range 16).map fun v => sgn U v * aL.getD v 0 * E s k).sum := by
    intro k U hU hk
    unfold termF
    rw [hk, walsh_at ha U hU, sum_mul]; rfl
  rw [span3 hX hY hZ] at e0 ⊢
  have t0 := e0 0 0 hz rfl
  have t1 := e0 1 (0 ^^^ X) hX0 rfl
  have t2 := e0 2 (0 ^^^ Y) hY0 rfl
  have t3 := e0 3 (0 ^^^ X ^^^ Y) hXY rfl
  have t4 := e0 4 (0 ^^^ Z) hZ0 rfl
  have t5 := e0 5 (0 ^^^ X ^^^ Z) hXZ rfl
  have t6 := e0 6 (0 ^^^ Y ^^^ Z) hYZ rfl
  have t7 := e0 7 (0 ^^^ X ^^^ Y ^^^ Z) hXYZ rfl
  clear e0
  generalize termF (walshF aL) _ s = T at t0 t1 t2 t3 t4 t5 t6 t7 ⊢
  have e8 : ((List.range 8).map T).sum = T 0 + (T 1 + (T 2 + (T 3 + (T 4 + (T 5 + (T 6 + (T 7 + ((List.range 16).map fun _ => (0 : Int)).sum))))))) := rfl
  rw [e8, t0, t1, t2, t3, t4, t5, t6, t7]
  simp only [PyProof.Rows.sum_map_add]
  refine sum_congr _ fun v hv => ?_
  have hv16 : v < 16 := List.mem_range.mp hv
  rw [sgn_xor _ hXY Z hZ v hv16, sgn_xor _ hX0 Y hY v hv16, sgn_xor _ hX0 Z hZ v hv16, sgn_xor _ hY0 Z hZ v hv16, sgn_xor 0 hz X hX v hv16, sgn_xor 0 hz Y hY v hv16, sgn_xor 0 hz Z hZ v hv16]
  have key := pois_one hs (aL.getD v 0) (sgn X v) (sgn Y v) (sgn Z v) (sgn_pm _ _) (sgn_pm _ _) (sgn_pm _ _)
  simp only [sgn_zero, Int.one_mul] at key ⊢
  exact key
def wordN (t : Nat) : Nat := t ^^^ (t / 2)
theorem word_nat : ∀ t, t < 16 → (wordsL.getD (0 + ((t : Nat) : Int)).toNat 0).toNat = wordN t := by decide +kernel
theorem show_at : ∀ r, r < 16 → ∀ t, t < 16 → Txt.contains (leftF ((r : Nat) : Int)) (signsL.getD (0 + ((t : Nat) : Int)).toNat Str.empty) = (sgn r (wordN t) == 1) := by decide +kernel
theorem shown3 {X Y Z t : Nat} (hX : X < 16) (hY : Y < 16) (hZ : Z < 16) (ht : t < 16) : shownP wordsL signsL [(X : Int), (Y : Int), (Z : Int)] t 0 = (sgn X (wordN t) == 1) ∧ shownP wordsL signsL [(X : Int), (Y : Int), (Z : Int)] t 1 = (sgn Y (wordN t) == 1) ∧ shownP wordsL signsL [(X : Int), (Y : Int), (Z : Int)] t 2 = (sgn Z (wordN t) == 1) := by
  refine ⟨?_, ?_, ?_⟩
  · rw [← show_at X hX t ht]; rfl
  · rw [← show_at Y hY t ht]; rfl
  · rw [← show_at Z hZ t ht]; rfl
theorem perm_sum (g : Nat → Int) : ((List.range 16).map fun t => g (wordN t)).sum = ((List.range 16).map g).sum := by
  have e1 : ((List.range 16).map fun t => g (wordN t)).sum = g 0 + (g 1 + (g 3 + (g 2 + (g 6 + (g 7 + (g 5 + (g 4 + (g 12 + (g 13 + (g 15 + (g 14 + (g 10 + (g 11 + (g 9 + (g 8 + 0))))))))))))))) := rfl
  have e2 : ((List.range 16).map g).sum = g 0 + (g 1 + (g 2 + (g 3 + (g 4 + (g 5 + (g 6 + (g 7 + (g 8 + (g 9 + (g 10 + (g 11 + (g 12 + (g 13 + (g 14 + (g 15 + 0))))))))))))))) := rfl
  rw [e1, e2]; simp +arith only
theorem getF_map (nm : Str) (es : List HE) : getF nm es = ((es.map heP).filter fun p => Txt.lower p.1 == nm).map (·.2) := by
  unfold getF
  induction es with
  | nil => rfl
  | cons e es ih =>
    rw [List.map_cons, List.filter_cons, List.filter_cons]
    by_cases h : (Txt.lower e.2.1.1 == nm) = true
    · rw [if_pos h, if_pos h, List.map_cons, List.map_cons, ih]
    · rw [if_neg h, if_neg h, ih]
theorem told_at {ws : List Int} {sg : List Str} {ns xs : List Int} (t : Nat) : toldN (entF ws sg ns xs t).2 = worthT ws ns t := by
  have hb : (worthT ws ns t).natAbs < 10 ^ 40 := Nat.lt_trans (worthL_bound ns _) (by decide)
  have e1 : PySem.intText? (entF ws sg ns xs t).2 = some (worthT ws ns t) := int_reads hb
  unfold toldN
  rw [e1]; rfl
theorem low_ent {ws : List Int} {sg : List Str} {ns xs : List Int} (t : Nat) : Txt.lower (entF ws sg ns xs t).1 = nameF (shownP ws sg xs t) := by
  unfold entF
  dsimp only
  split
  · exact name_lowU _
  · exact name_low _
theorem told_eq {ns : List Int} {es : List HE} {X Y Z s : Nat} (hX : X < 16) (hY : Y < 16) (hZ : Z < 16) (h : es.map heP = (List.range 16).map (entF wordsL signsL ns [(X : Int), (Y : Int), (Z : Int)])) :
    ((getF (nameF (maskP s)) es).map toldN).sum = ((List.range 16).map fun v => if MatchP s (sgn X v) (sgn Y v) (sgn Z v) then (worthL ns).getD v 0 else 0).sum := by
  rw [getF_map, h, List.filter_map, List.map_map, List.map_map, PyProof.Rows.sum_map_filter]
  refine Eq.trans (sum_congr _ fun t ht => ?_) (perm_sum _)
  have ht16 : t < 16 := List.mem_range.mp ht
  obtain ⟨k0, k1, k2⟩ := shown3 hX hY hZ ht16
  have e1 : ((fun p : Str × Str => Txt.lower p.1 == nameF (maskP s)) ∘ entF wordsL signsL ns [(X : Int), (Y : Int), (Z : Int)]) t = true ↔ MatchP s (sgn X (wordN t)) (sgn Y (wordN t)) (sgn Z (wordN t)) := by
    show (Txt.lower (entF wordsL signsL ns [(X : Int), (Y : Int), (Z : Int)] t).1 == nameF (maskP s)) = true ↔ _
    rw [low_ent, beq_iff_eq, name_inj, k0, k1, k2]
  have e2 : (toldN ∘ (fun p : Str × Str => p.2) ∘ entF wordsL signsL ns [(X : Int), (Y : Int), (Z : Int)]) t = (worthL ns).getD (wordN t) 0 := by
    show toldN (entF wordsL signsL ns [(X : Int), (Y : Int), (Z : Int)] t).2 = _
    rw [told_at]
    unfold worthT
    rw [word_nat t ht16]
  by_cases hm : MatchP s (sgn X (wordN t)) (sgn Y (wordN t)) (sgn Z (wordN t))
  · rw [if_pos hm, if_pos (e1.mpr hm)]; exact e2
  · rw [if_neg hm, if_neg fun q => hm (e1.mp q)]
theorem worthL_len (ns : List Int) : (worthL ns).length = 16 := by unfold worthL; simp
/-- Poisson's summation over the sixteen words -/
theorem pois_law {ns xs : List Int} (h3 : xs.length = 3) (hx : ∀ z ∈ xs, 0 ≤ z ∧ z < 16) {es : List HE} (h : es.map heP = (List.range 16).map (entF wordsL signsL ns xs)) {s : Nat} (hs : s < 8) :
    ((List.range 8).map (termF (walshF (List.map (worthF ns) (List.range 16))) (spanF xs) s)).sum = 8 * ((getF (nameF (maskP s)) es).map toldN).sum ∧ (((getF (nameF (maskP s)) es).map toldN).sum).natAbs < 2 ^ 120 := by
  match xs, h3 with
  | [x, y, z], _ =>
    have h1 := hx x (.head _)
    have h2 := hx y (.tail _ (.head _))
    have h4 := hx z (.tail _ (.tail _ (.head _)))
    obtain ⟨X, rfl⟩ := Int.eq_ofNat_of_zero_le h1.1
    obtain ⟨Y, rfl⟩ := Int.eq_ofNat_of_zero_le h2.1
    obtain ⟨Z, rfl⟩ := Int.eq_ofNat_of_zero_le h4.1
    have hX : X < 16 := by omega
    have hY : Y < 16 := by omega
    have hZ : Z < 16 := by omega
    rw [told_eq hX hY hZ h]
    refine ⟨?_, ?_⟩
    · have t := total_eq (worthL_len ns) hX hY hZ hs
      unfold worthL at t
      rw [t, Int.mul_comm, sum_mul]
      refine sum_congr _ fun v _ => ?_
      unfold worthL
      split
      · exact Int.mul_comm _ _
      · rfl
    · have b := sum_bound (List.range 16) (f := fun v => if MatchP s (sgn X v) (sgn Y v) (sgn Z v) then (worthL ns).getD v 0 else 0) (B := 10 ^ 31) (fun v => by
        split
        · exact Nat.le_of_lt (worthL_bound ns v)
        · decide)
      refine Nat.lt_of_le_of_lt b ?_
      rw [List.length_range]; decide
end
section
-- Law
open PySem PySem.W PyProof.Rows PySem.Calls LCg LCt
set_option maxHeartbeats 8000000
local macro_rules | `(tactic| walk_at "call ref") => `(tactic| (refine LoopHere.out ?_))
local macro_rules | `(tactic| walk_at "CEND") => `(tactic| (refine' CompEnd.intro (by k_asm) (by k_asm) _ (by walk_at "SUB3") (by assumption) (by exact trivial) ⟨rfl, ?J⟩))
local macro_rules | `(tactic| walk_at "SUB3") => `(tactic| first | with_reducible exact fun _ h => h | (with_reducible refine sub_cons ?_; walk_at "SUB3"))
local macro_rules | `(tactic| k_ne) => `(tactic| first | with_reducible assumption | exact Ne.symm (by with_reducible assumption) | exact Nat.ne_of_lt (by with_reducible assumption) | exact Nat.ne_of_gt (by with_reducible assumption))
local macro_rules | `(tactic| k_all) => `(tactic| first | with_reducible assumption | (refine List.forall_mem_cons.mpr ⟨?_, ?_⟩; (· k_ne); k_all) | exact fun _ h => nomatch h | exact ne_at0 (by with_reducible assumption))
local macro_rules | `(tactic| walk_at "MEM") => `(tactic| first | with_reducible exact mem_head | (refine mem_tail ?_; walk_at "MEM") | with_reducible assumption)
local macro_rules | `(tactic| walk_at "callWith ref") => `(tactic| (k_here; k_dflt (first
  | refine' callWith_K (by k_asm) (by k_is) ?_; k_whole
  | refine' callWith_K0 (by k_in) (by k_is) ?_; k_whole)))
local macro_rules | `(tactic| walk_at "callWith ref") => `(tactic| (k_here; (with_reducible show wpAny _ _ (callWith _ (Value.ref 238) _ _ _) _ _ _); k_dflt ((with_reducible rename Fr _ _ _ _ => fF'); (with_reducible rename Frag.In _ _ => xX'); (refine' callWith_K0 (Frag.In.keeps xX' (Fr.keep fF')) ?k2 ?_); (case k2 => k_is); k_whole)))
local macro_rules | `(tactic| walk_at "ITEM") => `(tactic| (k_here; (with_reducible show wpAny _ _ (subscriptTail _ _ (Value.ref _) (Value.int _ _)) _ _ _); (with_reducible rename News _ _ _ _ => nN'); k_dflt (first
  | (refine KTb.item_list (News.isList nN' (by walk_at "MEM")) (by with_reducible assumption) (by first | with_reducible exact idx_lo _ | with_reducible assumption) (by with_reducible assumption) (by with_reducible assumption) (fun t' hlt => ?_))
  | (refine item_list_intsR (News.isList nN' (by walk_at "MEM")) (by with_reducible assumption) (by first | with_reducible exact idx_lo _ | with_reducible assumption) (by with_reducible assumption) (by with_reducible assumption) (fun t' => ?_)))))
local macro_rules | `(tactic| walk_at "subscriptTail Name Name ref int") => `(tactic| walk_at "ITEM")
local macro_rules | `(tactic| walk_at "subscriptTail Name Constant ref int") => `(tactic| walk_at "ITEM")
local macro_rules | `(tactic| walk_at "subscriptTail Name Subscript ref int") => `(tactic| walk_at "ITEM")
local macro_rules | `(tactic| walk_at "subscriptTail Name BinOp ref int") => `(tactic| walk_at "ITEM")
local macro_rules | `(tactic| walk_at "binaryOp Add str str") => `(tactic| (k_here; (with_reducible show wpAny _ _ (binaryOp _ (Value.str _ _) (Value.str (Txt.join _ (nameZ _ 3)) _)) _ _ _); k_dflt (refine name_add fun t' k' => ?_)))
local macro_rules | `(tactic| walk_at "call builtin:str.upper") => `(tactic| (k_here; k_dflt (refine SCL.upper (by with_reducible assumption) ?_); intro _))
local macro_rules | `(tactic| walk_at "call type:str") => `(tactic| (k_here; k_dflt (refine P.str_of_int (by with_reducible assumption) ?_)))
local macro_rules | `(tactic| walk_at "And") => `(tactic| ((with_reducible show Frag.In _ _ ∧ _); k_dflt ((with_reducible rename Fr _ _ _ _ => fF'); (with_reducible rename Frag.In _ _ => xX'); (refine ⟨Frag.In.keeps xX' (Fr.keep fF'), ?_⟩)); (try dsimp only [List.nil_append, List.cons_append])))
local macro_rules | `(tactic| walk_at "binaryOp Add ref ref") => `(tactic| (k_here; k_dflt ((with_reducible rename News _ _ _ _ => nN'); (with_reducible rename Fr _ _ _ _ => fF'); (refine kmk_add_ints fF' nN' (News.isList nN' (by walk_at "MEM")) (News.isList nN' (by walk_at "MEM")) (by with_reducible assumption) (by with_reducible assumption) (fun D' us' h' F' N' l1 hI' => ?_) (by with_reducible assumption)); (try k_lt l1))))
local macro_rules | `(tactic| walk_at "LTALL") => `(tactic| first | exact allLt_all (by with_reducible assumption) | (refine List.forall_mem_cons.mpr ⟨?_, ?_⟩; (· with_reducible assumption); walk_at "LTALL"))
local macro_rules | `(tactic| walk_at "call builtin:sum") => `(tactic| (k_here; k_dflt ((with_reducible rename News _ _ _ _ => nN'); (with_reducible rename Fr _ _ _ _ => fF'); first
  | (refine sumK rfl fF' nN' (Fr.lst fF' (by with_reducible assumption)) (by with_reducible assumption) (fun h' tk' t' F' N' => ?_))
  | (refine sumK rfl fF' nN' (News.isList nN' (by walk_at "MEM")) (by with_reducible assumption) (fun h' tk' t' F' N' => ?_)))))
local macro_rules | `(tactic| walk_at "call builtin:len") => `(tactic| (k_here; k_dflt ((with_reducible rename Fr _ _ _ _ => fF'); (refine len_list (Fr.lst fF' (by with_reducible assumption)) (by with_reducible assumption) ?_))))
local macro_rules | `(tactic| walk_at "call builtin:abs") => `(tactic| (k_here; k_dflt (refine call_abs_int (fun u' k' => ?_))))
local macro_rules | `(tactic| walk_at "execs cons") => `(tactic| (k_here; with_reducible refine wpAny_execs_cons ?_))
local macro_rules | `(tactic| walk_at "GTALL") => `(tactic| first | with_reducible assumption | (refine List.forall_mem_cons.mpr ⟨?_, ?_⟩; (· with_reducible assumption); walk_at "GTALL"))
local macro_rules | `(tactic| walk_at "binaryOp Mult int int") => `(tactic| (k_here; k_dflt (refine mul_int ?_ (by with_reducible assumption))))
local macro_rules | `(tactic| walk_at "call type:int") => `(tactic| (k_here; k_dflt (refine KIN.call_text (by with_reducible assumption) (by with_reducible assumption) ?_)))
local macro_rules | `(tactic| walk_at "eval IfExp") => `(tactic| ((fail_if_success (with_reducible rename LoopHere True => zz)); refine LoopHere.out ?_))
local macro_rules | `(tactic| walk_at "exec For Name Name cons nil") => `(tactic| (refine LoopHere.out ?_))
local macro_rules | `(tactic| walk_at "exec For Name Call cons nil") => `(tactic| (refine LoopHere.out ?_))
local macro_rules | `(tactic| walk_at "pyIter ref") => `(tactic| (refine LoopHere.out ?_))
local macro_rules | `(tactic| walk_at "call builtin:str.join") => `(tactic| (k_here; k_dflt (refine join_listW (by is_list) (by with_reducible assumption) (by decide +kernel) (by with_reducible assumption) ?_); intro t' k'))
section
variable {w : World} {news : List (Addr × Obj)} {p : Program} {loose : List Str} {mean : ExcName → Option Value} {mg mb : Str → Option Value}
    {dp un : Nat} {gd : Option (List Code)} {cn : Str} {cs : Scope} {a : Addr} {ccd : Value} {cl : List (Str × Addr)} {outer : List Env} {A₀ : Around} {base h₀ : Heap} {L : Addr} {m : Str → Option Value} {s : Shared} {Q E : Value → Shared → Prop}
theorem lineU {r : Int} {tr : Tok} {lw lg : Addr} {kw kg : Nat} {wvs gvs : List Value} {ws : List Int} {sg : List Str} (N : News h₀ L s.heap news) (hmw : (lw, W.listOf wvs.toArray kw) ∈ news) (hmg : (lg, W.listOf gvs.toArray kg) ∈ news) (hr : 0 ≤ r ∧ r < 16) (hws : IntsAre wvs ws) (hwl : ws.length = 16) (hsg : StrsAre gvs sg) (hgl : sg.length = 16)
    (hll : ∀ i, i < 16 → (lineT ws sg r i).length ≤ 1000) (hgs : ∀ i, (sg.getD i Str.empty).length ≤ 10)
    (B : Below A₀ base outer h₀) (F : Fr h₀ L s.heap m) (X : (hd02.heap_1 w.params).In h₀) (T : Top p loose mean mg mb h₀) (C1 : CodeHd base 72 68) (C2 : CodeHd base 79 75) (hd : dp + 3 < recursionLimit) (hu : un + 8 * 3 < cLine)
    (ret : ∀ t' h' tk', Fr h₀ L h' m → News h₀ L h' news → Q (.str (lineF ws sg r) t') { s with heap := h', toks := tk' }) (hk : cs.kind = .function := by exact rfl) :
    wpAny (model PySem.Challenge.rw_sw0076_02.row.prog w) (ktrTop dp un gd cn cs L a ccd cl outer) (call (.ref 263) [.int r tr, .ref lw, .ref lg]) Q E s :=
  Spec.use (line w r tr hr lw lg kw kg wvs gvs ws sg hws hwl hsg hgl hll hgs news hmw hmg) hk B F X N T C1 C2 hd hu fun v news' h' tk' F' N' P' => by
    obtain ⟨t', e1, e2⟩ := P'
    subst e1; subst e2
    exact ret t' h' tk' F' N'
end
theorem off1_hd {d a : Addr} {o : Obj} {l : List (Addr × Obj)} (h : Off1 d ((a, o) :: l)) : @Ne Nat a d := h.1
theorem off1_tl {d : Addr} {e : Addr × Obj} {l : List (Addr × Obj)} (h : Off1 d (e :: l)) : Off1 d l := h.2
theorem all_hd {e : Addr × Obj} {l r : List (Addr × Obj)} (h : ∀ p ∈ e :: l, p ∈ r) : e ∈ r := h e (.head _)
theorem all_tl {e : Addr × Obj} {l r : List (Addr × Obj)} (h : ∀ p ∈ e :: l, p ∈ r) : ∀ p ∈ l, p ∈ r := fun p hp => h p (.tail _ hp)
theorem law0 : PySem.Challenge.rw_sw0076_02.Holds := by
  refine hd02 ?_
  k_fill
  intro w s₀ s₁ mg mb G Y fa o pm cd doc dV kV ho hd hcd hD hmg hg args vals as hpre hlay hrd hwl hlo
  have KX := km_in_of Y
  km_tabs Y
  have X := (Ground.X G).1
  have V := (Ground.X G).2
  refine Ground.open G ?_
  intro T B D TE TW
  try (refine guard_noD D (by decide +kernel) ?_; clear D)
  km_lay T hmg ho hd cd
  clear hmg
  wrow_args hpre hlay hrd hwl hlo
  first | refine callC_kw (enter_call ?_) | refine enter_call ?_
  w_top on
  refine law_post hT9 (fun _ _ => rfl) (by first | wrow_post | (with_unfolding_all rfl) | decide) ?_
  have he := Dflts.none hD rfl
  subst he
  have he := Dflts.noKw hD
  subst he
  refine call_cellsN (by decide) ho (fd_plain hd) (Top.nolimit T) hcd rfl (kinds_of (by kinds_ok)) (by decide) fun h₁ tk₁ cells F N0 X0 => ?_
  dsimp only [docDef] at X0
  repeat (have X1 := cells_step X0; clear X0; obtain ⟨o9, r9, e9, d9, X0⟩ := X1; subst e9)
  have e9 := cells_end X0
  subst e9
  clear X0
  clear hd
  kn_ghosts F T
  obtain ⟨u0, u1, u2, u3, u4, u5, u6, u7, u8, u9, u10, u11, u12, u13, u14, u15, u16, u17, u18, u19, u20, u21, u22, u23, u24, u25, u26, u27, u28, u29, u30, u31, u32, u33, u34, u35, u36, u37, u38, u39, u40, u41, u42, u43, u44, u45, u46, u47, u48, u49, u50, u51, u52, u53, u54⟩ := cellsLt s₁.heap.objs.size (by assumption) (by assumption)
  k_drop
  with_reducible rename (ghostOf _ _).IsList _ _ => hls
  with_reducible rename IntsAre _ _ => hns
  with_reducible rename List Int => ns
  with_reducible rename List Value => svs0
  with_reducible rename ¬ _ < _ => hlen0
  have hlen := le63 hlen0
  with_reducible rename ReadsAllW _ _ _ _ _ _ => q1
  with_reducible rename ReadsAll _ _ _ _ => q2
  with_reducible rename Well _ _ _ _ => q3
  with_reducible rename Reads _ _ _ _ => q4
  clear q1 q2 q3 q4
  with_reducible rename Spec.Shape.has _ _ = true => q1
  clear q1
  with_reducible rename WShape.hasAll _ _ _ = true => q2
  with_reducible rename WData.layableAll _ = true => q3
  with_reducible rename PyData.layableAll0 _ = true => q4
  with_reducible rename PyData.layable0 _ = true => q5
  clear q2 q3 q4 q5 hlen0
  clear T B TE TW Y hD ho hcd hT8 V G X hT9
  k_steps
  refine LoopHere.mk ?_
  refine' LCg.CompSrc.range (n := 16) rfl ?F1 ?N1 ?R1 ?S1 ?T1 (by decide) (fun g => ?_)
  case F1 => k_asm
  case N1 => k_asm
  case R1 => assumption
  case S1 => rfl
  case T1 => rfl
  refine restU_inv (fun i ys news' => news' = _ ∧ IntsAre ys ((List.range i).map wordF)) ?turn1 ?fin1 _ 0 [] _ (Nat.zero_add _) ⟨rfl, .nil⟩
  case turn1 =>
    rintro i ys news' v I oI C oC D m₂ h tk E' hi ⟨rfl, hys⟩ ⟨tv, rfl⟩ hns9 hkv F9 N9 o9 hne
    k_steps
    walk_at "CEND"
    refine grow_snoc hys ?_
    with_reducible exact word_in i
  case fin1 =>
    rintro ys news' ⟨rfl, hws⟩ D9 h9 tk9 F9 N9 o9
    obtain ⟨ws, hws0⟩ : ∃ ws, ws = (List.range 16).map wordF := ⟨_, rfl⟩
    rw [← hws0] at hws
    repeat ((have q9 := off1_hd o9); (replace o9 := off1_tl o9))
    k_steps
    refine LoopHere.mk ?_
    refine' LCg.CompSrc.range (n := 16) rfl ?F1 ?N1 ?R1 ?S1 ?T1 (by decide) (fun g => ?_)
    case F1 => k_asm
    case N1 => k_asm
    case R1 => assumption
    case S1 => rfl
    case T1 => rfl
    refine restU_inv (fun i ys news' => news' = _ ∧ StrsAre ys ((List.range i).map signF)) ?turn2 ?fin2 _ 0 [] _ (Nat.zero_add _) ⟨rfl, .nil⟩
    case turn2 =>
      rintro i ys news' v I oI C oC D m₂ h tk E' hi ⟨rfl, hys⟩ ⟨tv, rfl⟩ hns9 hkv F9 N9 o9 hne
      k_steps
      all_goals (walk_at "CEND"; refine strs_grow hys ?_)
      all_goals first
        | with_reducible exact sign0 (by with_reducible assumption)
        | with_reducible exact sign1 (by with_reducible assumption)
        | with_reducible exact sign2 (by with_reducible assumption)
    case fin2 =>
      rintro ys news' ⟨rfl, hsg⟩ D8 h8 tk8 F8 N8 o8
      obtain ⟨sg, hsg0⟩ : ∃ sg, sg = (List.range 16).map signF := ⟨_, rfl⟩
      rw [← hsg0] at hsg
      repeat ((have q9 := off1_hd o8); (replace o8 := off1_tl o8))
      have hwl : ws.length = 16 := by rw [hws0]; simp
      have hgl : sg.length = 16 := by rw [hsg0]; simp
      k_steps
      refine LoopHere.mk ?_
      ((refine SpecS.use (worths w _ _ ns hns hlen _) rfl (by k_asm) (by k_asm) (by k_asm) (by k_asm) (by k_asm) (by assumption) (by assumption) (by assumption) (by ktr_room) (by ktr_units) ?_); intro v' news' h' tk' F' N' P'; obtain ⟨l', vs', k', e1, e2, i1, l1⟩ := P'; subst e1; subst e2; (try k_lt l1); (try k_fold))
      k_steps
      refine LoopHere.mk ?_
      ((refine SpecS.use (rows w _ _ ns hns hlen _) rfl (by k_asm) (by k_asm) (by k_asm) (by k_asm) (by k_asm) (by assumption) (by assumption) (by assumption) (by ktr_room) (by ktr_units) ?_); intro v' news' h' tk' F' N' P'; obtain ⟨xs', hxl', hx16', l', vs', k', e1, e2, i1, l1⟩ := P'; subst e1; subst e2; (try k_lt l1); (try k_fold))
      k_steps
      refine LoopHere.mk ?_
      refine wpAny_For ?_ (fun _ => rfl)
      k_steps
      refine LoopHere.mk ?_
      with_reducible rename News _ _ _ (_ :: _ :: _ :: _ :: _ :: _ :: _) => N5
      with_reducible rename IntsAre _ _ => hrv
      with_reducible rename List.length _ = 3 => hxl
      with_reducible rename (∀ z ∈ _, 0 ≤ z ∧ z < 16) => hx16
      with_reducible rename List Int => xs7
      have hll7 : ∀ r : Int, 0 ≤ r ∧ r < 16 → ∀ i, i < 16 → (lineT ws sg r i).length ≤ 1000 := by rw [hws0, hsg0]; exact line_len
      have hgs7 : ∀ i, (sg.getD i Str.empty).length ≤ 10 := by rw [hsg0]; exact sign_len
      have hso7 : ∀ r : Int, 0 ≤ r ∧ r < 16 → StripOk (lineF ws sg r) := by rw [hws0, hsg0]; exact strip_ok
      have hlj7 : ∀ r : Int, 0 ≤ r ∧ r < 16 → stripF (lineF ws sg r) = Txt.join (Str.ofString "") (sg.filter fun g => Txt.contains (stripF (lineF ws sg r)) g) := by rw [hws0, hsg0]; exact left_join
      have hls7 : ∀ r : Int, 0 ≤ r ∧ r < 16 → ((sg.filter fun g => Txt.contains (stripF (lineF ws sg r)) g).map (·.length)).sum + (sg.filter fun g => Txt.contains (stripF (lineF ws sg r)) g).length ≤ 1048576 := by rw [hws0, hsg0]; exact left_sum
      have hwr7 : ∀ t : Nat, t < 16 → 0 ≤ ws.getD (0 + (t : Int)).toNat 0 ∧ ws.getD (0 + (t : Int)).toNat 0 < 16 := by rw [hws0]; exact word_idx
      have hpl7 : ∀ es : List HE, es.map heP = (List.range 16).map (entF ws sg ns xs7) → ∀ s : Nat, s < 8 → ((List.range 8).map (termF (walshF (List.map (worthF ns) (List.range 16))) (spanF xs7) s)).sum = 8 * ((getF (nameF (maskP s)) es).map toldN).sum ∧ (((getF (nameF (maskP s)) es).map toldN).sum).natAbs < 2 ^ 120 := by rw [hws0, hsg0]; exact fun es h s hs => pois_law hxl hx16 h hs
      clear hws0 hsg0
      refine row_loop (fun r => stripF (lineF ws sg r)) rfl (by k_asm) N5 hrv (by with_reducible assumption) (by with_reducible assumption) (by k_all) (by k_all) (by k_all) ?done6 ?turn6
      case turn6 =>
        intro i r tr orow oleft lvs k k1 k2 h tk gs tl hr d1 d2 hls6 hg6 hsub z1 z2 z3 F9 N9
        have hr16 := hx16 r (List.mem_of_getElem? hr)
        have hvl8 : lvs.length ≤ sizeLine := by
          have h1 := strs_len hls6
          have h2 : ((xs7.take i).map fun r => stripF (lineF ws sg r)).length ≤ 3 := by
            rw [List.length_map, List.length_take, hxl]; exact Nat.min_le_right ..
          rw [h1]; exact Nat.le_trans h2 (by decide)
        have hll8 := hll7 r hr16
        have hso8 := hso7 r hr16
        have hlj8 := hlj7 r hr16
        have hls8 := hls7 r hr16
        repeat ((have q9 := all_hd hsub); (replace hsub := all_tl hsub))
        k_steps
        refine LoopHere.mk ?_
        with_reducible rename News _ _ _ _ => nN6
        refine lineU nN6 (by walk_at "MEM") (by walk_at "MEM") hr16 hws hwl hsg hgl hll8 hgs7 (by k_asm) (by k_asm) (by k_asm) (by k_asm) (by assumption) (by assumption) (by ktr_room) (by ktr_units) ?_
        intro t' h' tk' F' N'
        (try k_fold)
        k_steps
        refine LoopHere.mk ?_
        ((refine SpecG.use (strip w _ _ hso8 _) rfl (by k_asm) (by k_asm) (by k_asm) (by k_asm) (by k_asm) (by assumption) (by assumption) (by ktr_room) (by ktr_units) ?_); intro v' news' h' tk' G' F' N' P' hg'; obtain ⟨t', e1, e2⟩ := P'; subst e1; subst e2; (try k_fold))
        k_steps
        refine LoopHere.mk ?_
        refine' LCt.CompSrcT.ledger rfl ?F7 ?N7 ?hm7 ?hsz7 (fun g => ?_)
        case F7 => k_asm
        case N7 => k_asm
        case hm7 => walk_at "MEM"
        case hsz7 => rw [List.size_toArray, strs_len hsg, hgl]; decide
        refine restT_inv (fun i zs news' => news' = _ ∧ StrsAre zs ((sg.take i).filter fun g => Txt.contains (stripF (lineF ws sg r)) g)) ?turn7 ?fin7 _ 0 [] _ (Nat.zero_add _) ⟨rfl, .nil⟩
        case turn7 =>
          rintro i7 zs news' v I oI C oC D m₂ h7 tk7 E' hi ⟨rfl, hzs⟩ hP hns9 hkv F8 N8 o8 hne
          obtain ⟨y, ty, rfl, hy⟩ := strs_at hsg i7 v (by simpa using hP)
          clear hP
          have hfs := filter_snoc (p := fun g => Txt.contains (stripF (lineF ws sg r)) g) hy
          k_steps
          all_goals first
            | (with_reducible rename (Builtin.Str.occurrences _ _ _ _ _).isEmpty = true => hc
               rw [if_neg (has_no hc)] at hfs
               refine CompEnd.intro (by k_asm) (by k_asm) _ (fun _ h => h) o8 (.inr ⟨_, by walk_at "MEM", rfl, _, rfl⟩) ⟨rfl, ?_⟩
               rw [hfs]; exact hzs)
            | (with_reducible rename (Builtin.Str.occurrences _ _ _ _ _).isEmpty = false => hc
               rw [if_pos (has_yes hc)] at hfs
               refine CompEnd.intro (by k_asm) (by k_asm) _ (fun _ h => h) o8 (.inr ⟨_, by walk_at "MEM", rfl, _, rfl⟩) ⟨rfl, ?_⟩
               rw [hfs]; exact strs_snoc hzs)
        case fin7 =>
          rintro zs news' ⟨rfl, hzs⟩ D7 h7 tk7 F7 N7 o7
          rw [List.size_toArray, strs_len hsg, List.take_length] at hzs
          repeat ((have q9 := off1_hd o7); (replace o7 := off1_tl o7))
          k_steps
          all_goals first
            | (exfalso; with_reducible rename (_ != _) = true => hq; rw [← hlj8] at hq; simp at hq; done)
            | exact hvl8
            | (with_reducible rename (AllBare _ → AllBare _) => hq
               exact row_end (by k_asm) (by with_reducible assumption) (by walk_at "MEM") (by walk_at "MEM") (by walk_at "MEM") (by first | exact sub_cons (sub_cons (sub_cons sub_refl)) | exact sub_cons (sub_cons (sub_cons (sub_cons sub_refl))) | exact sub_cons (sub_cons (sub_cons (sub_cons (sub_cons sub_refl))))) hq (by with_reducible assumption) (by with_reducible assumption) (by rw [take_snoc hr]; exact strs_snoc hls6))
      case done6 =>
        intro orow oleft lvs k6 k61 k62 h6 tk6 gs6 d61 d62 hls6 hg6 F9 N9
        k_steps
        refine LoopHere.mk ?_
        ((refine Spec.use (make _ _) rfl (by k_asm) (by k_asm) (by k_asm) (by k_asm) (by k_asm) (by assumption) (by assumption) (by ktr_room) (by ktr_units) ?_); intro v' news' h' tk' F' N' P'; obtain ⟨al', ax', ad', t', k', e1, e2, i1, i2, i3⟩ := P'; subst e1; subst e2; (try k_fold))
        k_steps
        refine LoopHere.mk ?_
        refine wpAny_For ?_ (fun _ => rfl)
        k_steps
        refine LoopHere.mk ?_
        with_reducible rename News _ _ _ ((_, W.listOf #[] _) :: _) => N7
        obtain ⟨N8, hal, hct, hct1, hct2, hct3⟩ := tab_start N7 (by with_reducible assumption) (by with_reducible assumption) (by with_reducible assumption)
        refine table_loop (entF ws sg ns xs7) (Str.ofString "name") rfl (by assumption) (by k_asm) N8 (by with_reducible assumption) (by k_all) hal hct ?done7 ?turn7
        case turn7 =>
          intro i7 t7 ot7 c7 es7 k7 u7 h7 tk7 gs7 tl7 hi7 dt7 hlen7 hmt7 hg7 hsub7 z1 z2 F8 N9
          repeat ((have q9 := all_hd hsub7); (replace hsub7 := all_tl hsub7))
          k_steps
          refine LoopHere.mk ?_
          refine' LCt.CompSrcT.range (n := 3) rfl ?F71 ?N71 ?R71 ?S71 ?T71 (by decide) (fun g => ?_)
          case F71 => k_asm
          case N71 => k_asm
          case R71 => assumption
          case S71 => rfl
          case T71 => rfl
          refine restT_inv (fun i zs news' => news' = _ ∧ StrsAre zs (nameZ (shownP ws sg xs7 i7) i)) ?turn71 ?fin71 _ 0 [] _ (Nat.zero_add _) ⟨rfl, .nil⟩
          have hml : (List.map (fun r => stripF (lineF ws sg r)) xs7).length = 3 := by rw [List.length_map, hxl]
          have hb1 : (0 : Int) + (i7 : Int) < (sg.length : Int) := by rw [hgl]; exact idx_hi hi7
          have hb2 : (0 : Int) + (i7 : Int) < 2 ^ 63 := idx_fit hi7
          have hb3 : (0 : Int) + (i7 : Int) < (ws.length : Int) := by rw [hwl]; exact idx_hi hi7
          case turn71 =>
            rintro i6 zs news' v I oI C oC D m₂ h8 tk8 E' hi ⟨rfl, hzs⟩ ⟨tv, rfl⟩ hns9 hkv F9 N9 o9 hne
            have hb4 : (0 : Int) + (i6 : Int) < ((List.map (fun r => stripF (lineF ws sg r)) xs7).length : Int) := by rw [hml]; exact idx_hi hi
            have hb5 : (0 : Int) + (i6 : Int) < 2 ^ 63 := idx_fit3 hi
            k_steps
            all_goals first
              | (with_reducible rename (Builtin.Str.occurrences _ _ _ _ _).isEmpty = true => hc
                 refine CompEnd.intro (by k_asm) (by k_asm) _ (fun _ h => h) o9 trivial ⟨rfl, ?_⟩
                 rw [nameZ_no (p := shownP ws sg xs7 i7) (has_no hc)]; exact hzs)
              | (with_reducible rename (Builtin.Str.occurrences _ _ _ _ _).isEmpty = false => hc
                 refine CompEnd.intro (by k_asm) (by k_asm) _ (fun _ h => h) o9 trivial ⟨rfl, ?_⟩
                 rw [nameZ_yes (p := shownP ws sg xs7 i7) (has_yes hc)]; exact strs_snoc hzs)
          case fin71 =>
            rintro zs news' ⟨rfl, hzs⟩ D7 h8 tk8 F9 N9 o9
            repeat ((have q9 := off1_hd o9); (replace o9 := off1_tl o9))
            have hzl := name_sum (shownP ws sg xs7 i7)
            have hso9 := name_stripOk (shownP ws sg xs7 i7)
            have hst9 := name_strip (shownP ws sg xs7 i7)
            have hnl9 := name_len (shownP ws sg xs7 i7)
            have hwi1 : (0 : Int) ≤ ws.getD (0 + (i7 : Int)).toNat 0 := (hwr7 i7 hi7).1
            have hwi2 : ws.getD (0 + (i7 : Int)).toNat 0 < ((List.map (worthF ns) (List.range 16)).length : Int) := by rw [List.length_map, List.length_range]; exact (hwr7 i7 hi7).2
            have hwi3 : ws.getD (0 + (i7 : Int)).toNat 0 < 2 ^ 63 := Int.lt_trans (hwr7 i7 hi7).2 (by decide)
            have hwi4 : ((List.map (worthF ns) (List.range 16)).getD (ws.getD (0 + (i7 : Int)).toNat 0).toNat 0).natAbs.log2 < 1920 := log_small (worthL_bound ns _)
            have hes7 : (es7.map heV).length ≤ sizeLine := by rw [List.length_map, hlen7]; exact Nat.le_trans (Nat.le_of_lt hi7) (by decide)
            have hnh9 := name_hit (shownP ws sg xs7 i7)
            have hnh8 := name_hitU (shownP ws sg xs7 i7)
            have hns9 := name_size (shownP ws sg xs7 i7)
            have hns8 := name_sizeU (shownP ws sg xs7 i7)
            have hvh9 := int_value (z := (List.map (worthF ns) (List.range 16)).getD (ws.getD (0 + (i7 : Int)).toNat 0).toNat 0)
            have hvs9 : (Str.ofString (toString ((List.map (worthF ns) (List.range 16)).getD (ws.getD (0 + (i7 : Int)).toNat 0).toNat 0))).length ≤ 41 := int_len (Nat.lt_trans (worthL_bound ns _) (by decide))
            k_steps
            refine LoopHere.mk ?_
            ((refine SpecG.use (strip w _ _ hso9 _) rfl (by k_asm) (by k_asm) (by k_asm) (by k_asm) (by k_asm) (by assumption) (by assumption) (by ktr_room) (by ktr_units) ?_); intro v' news' h' tk' G' F' N' P' hg'; obtain ⟨t', e1, e2⟩ := P'; subst e1; subst e2; (try k_fold))
            k_steps
            all_goals first
              | (exfalso; with_reducible rename (_ != _) = true => hq; rw [hst9] at hq; simp at hq; done)
              | refine LoopHere.mk ?_
            refine ifexp_join (fun x => x = (entF ws sg ns xs7 i7).1) ?_ (fun x9 t9 k9 hx9 => ?_)
            · have mk8 := LoopHere.mk True.intro
              k_steps
              all_goals first
                | exact TextEnd.mk (congrArg Prod.fst (ent_hi (by with_reducible assumption))).symm
                | exact TextEnd.mk (congrArg Prod.fst (ent_lo (by with_reducible assumption))).symm
            · have hnh7 : ∀ q, q < x9.cps.size → NoHit nameCode (x9.cps.getD q 0) := by rw [hx9]; exact ent_hit
              have hns7 : x9.cps.size < 2 ^ 63 := by rw [hx9]; exact ent_size
              k_steps
              refine LoopHere.mk ?_
              with_reducible rename News _ _ _ _ => nN'
              have N5 := news_perm5 nN'
              refine Spec.use (addh w _ _ _ _ _ _ _ _ (es7.map heV) k7 (_ :: tl7) (by with_reducible assumption) (by with_reducible assumption) (by with_reducible assumption) hvh9 (by with_reducible assumption) (Nat.lt_of_le_of_lt hvs9 (by decide)) (Nat.le_trans hvs9 (by decide)) (off_four (by with_reducible assumption) (by with_reducible assumption) (by with_reducible assumption) (by with_reducible assumption)) hes7) rfl (by k_asm) (by k_asm) (by k_asm) N5 (by k_asm) (by assumption) (by assumption) (by ktr_room) (by ktr_units) ?_
              intro v' news' h' tk' F' N' P'
              obtain ⟨T9, t1, t2, e1, e2, l1, l2⟩ := P'
              subst e1
              subst e2
              k_steps
              with_reducible rename (AllBare _ → AllBare _) => hq
              with_reducible rename News _ _ _ _ => nN8
              with_reducible rename Fr _ _ _ _ => fF8
              exact table_end fF8 nN8 hq (by intro y hy; simp only [if_neg hy]) (.tail _ (.tail _ (.tail _ (.tail _ (.head _))))) (.head _) (.tail _ (.head _)) (.tail _ (.tail _ (.head _))) (.tail _ (.tail _ (.tail _ (.head _)))) (fun p hp => .tail _ (.tail _ (.tail _ (.tail _ (.tail _ hp))))) (by with_reducible assumption) (by rw [hx9]; rfl) l1 (fun p hp => l2 p (.tail _ hp))
        case done7 =>
          intro ot8 c8 es8 k8 u8 h8 tk8 gs8 dt8 hem8 hal8 hg8 F10 N10
          simp only [List.cons_append, List.nil_append] at N10
          obtain ⟨hc4, hx4, hd4, hc6, hx6, hd6, hc7, hx7, hd7, hc8, hx8, hd8, hc9, hx9, hd9⟩ := tab_cells N7 (by with_reducible assumption) (by with_reducible assumption) (by with_reducible assumption)
          have hz4 := es_off hal8 hc4
          have hz6 := es_off hal8 hc6
          have hz7 := es_off hal8 hc7
          have hz8 := es_off hal8 hc8
          have hz9 := es_off hal8 hc9
          have hwl8 : (List.map (worthF ns) (List.range 16)).length = 16 := by simp
          obtain ⟨sums, hsums⟩ : ∃ o, o = walshF (List.map (worthF ns) (List.range 16)) := ⟨_, rfl⟩
          have hsl : sums.length = 16 := by rw [hsums]; exact (walsh_len _).trans hwl8
          have hout8 : ∀ ys, walshJ (List.map (worthF ns) (List.range 16)) 4 ys → ys = sums := fun ys h => (walshJ_fin rfl h).trans hsums.symm
          k_steps
          refine LoopHere.mk ?_
          ((with_reducible rename News _ _ _ _ => nN'); (with_reducible rename Fr _ _ _ _ => fF'); (refine walshU nN' (by walk_at "MEM") (by with_reducible assumption) (by with_reducible assumption) (by with_reducible assumption) (by k_asm) fF' (by k_asm) (by k_asm) (by assumption) (by assumption) (by ktr_room) (by ktr_units) ?_); intro l' vs' k' h' tk' i1 l1 F' N'; (try k_lt l1); (try k_fold))
          k_steps
          refine LoopHere.mk ?_
          refine wpAny_For ?_ (fun _ => rfl)
          k_steps
          refine LoopHere.mk ?_
          with_reducible rename News _ _ _ _ => N12
          refine span_loop (xs := xs7) rfl (by k_asm) (span_perm N12) (by walk_at "MEM") (by with_reducible assumption) (.cons _ _ .nil) (by with_reducible assumption) (by with_reducible assumption) (by with_reducible assumption) (by with_reducible assumption) (by k_all) (by k_all) (by walk_at "LTALL") ?done9 ?turn9
          case turn9 =>
            intro i9 r9 tr9 orow9 ospan9 lsp9 svs9 k9 k91 h9' tk9' gs9 tl9 hr9 dr9 ds9 hsv9 lr9 ls9 hg9 hsub9 z91 z92 F11 N11
            have hvl9 : svs9.toArray.size ≤ sizeLine := by
              rw [List.size_toArray, hsv9.length]
              exact Nat.le_trans (span_small hxl) (by decide)
            k_steps
            refine LoopHere.mk ?_
            refine' LCg.CompSrc.ledger rfl ?F91 ?N91 ?hm91 hvl9 (fun g => ?_)
            case F91 => k_asm
            case N91 => k_asm
            case hm91 => walk_at "MEM"
            refine restU_inv (fun i ys news' => news' = _ ∧ IntsAre ys (((spanF (xs7.take i9)).take i).map (fun u => Builtin.bitXor u r9))) ?turn91 ?fin91 _ 0 [] _ (Nat.zero_add _) ⟨rfl, .nil⟩
            case turn91 =>
              rintro i8 ys news' v I oI C oC D m₂ h tk E' hi ⟨rfl, hys⟩ hP hns9 hkv F9 N9 o9 hne
              obtain ⟨y, ty, rfl, hy⟩ := hsv9.at i8 v (by simpa using hP)
              clear hP
              k_steps
              refine CompEnd.intro (by k_asm) (by k_asm) _ (fun _ h => h) o9 (.inr ⟨_, by walk_at "MEM", rfl, _, rfl⟩) ⟨rfl, ?_⟩
              rw [xor_snoc hy]
              exact ints_snoc hys
            case fin91 =>
              rintro ys news' ⟨rfl, hys⟩ D7 h8 tk8 F9 N9 o9
              rw [List.size_toArray, hsv9.length, List.take_length] at hys
              repeat ((have q9 := off1_hd o9); (replace o9 := off1_tl o9))
              have hsz9 : (spanF (xs7.take i9)).length + (List.map (fun u => Builtin.bitXor u r9) (spanF (xs7.take i9))).length ≤ sizeLine := by
                rw [List.length_map]
                exact Nat.le_trans (Nat.add_le_add (span_small hxl) (span_small hxl)) (by decide)
              k_steps
              with_reducible rename News _ _ _ _ => nN8
              with_reducible rename Fr _ _ _ _ => fF8
              exact span_end fF8 nN8 (fun h => h) (by walk_at "MEM") (by walk_at "MEM") (by walk_at "MEM") (by walk_at "SUB3") (by with_reducible assumption) (by with_reducible assumption) (by rw [span_snoc hr9]; with_reducible assumption) (by with_reducible assumption) (by with_reducible assumption) (allLt_all (by with_reducible assumption))
          case done9 =>
            intro orow10 ospan10 lsp10 svs10 k10 k110 h10 tk10 gs10 d110 d210 hsvs10 lr10 ls10 l310 hg10 F13 N13
            k_lt l310
            have hnl10 := script_fit hns hlen
            obtain ⟨fac, hfac⟩ : ∃ f, (1000003 + (if ns.sum < 0 then -ns.sum else ns.sum).fmod (10 ^ Int.toNat 30)) * (1 - 2 * (svs0.toArray.size : Int).fmod 2) = f := ⟨_, rfl⟩
            have hfac2 : fac ≠ 0 ∧ fac.natAbs < 2 ^ 120 := by rw [← hfac]; exact fac_facts ns _
            k_steps
            refine LoopHere.mk ?_
            refine wpAny_For ?_ (fun _ => rfl)
            k_steps
            refine LoopHere.mk ?_
            with_reducible rename Fr _ _ _ _ => F14
            with_reducible rename News _ _ _ _ => N14
            rw [hfac] at F14
            have h754 : @LT.lt Nat _ 75 (s₁.heap.objs.size + 1 + 1 + 1 + 1) := by with_reducible assumption
            have h75l := Nat.lt_trans h754 hc4
            have h75x := Nat.lt_trans h754 hx4
            have h75d := Nat.lt_trans h754 hd4
            have hgt8 := es_gt hal8 h75l
            refine s_loop (Str.ofString "name") (Str.ofString "total") (Str.ofString "some") (Str.ofString "told") rfl (by assumption) F14 (s_perm N14) (by with_reducible assumption) (by k_all) (by walk_at "GTALL") ?done11 ?turn11
            case turn11 =>
              intro i11 t11 os11 c11 w1 w2 w3 w4 psI psD h11 tk11 gs11 tl11 hi11 d11 hst11 hg11 hsub11 z11 F15 N15
              repeat ((have q9 := all_hd hsub11); (replace hsub11 := all_tl hsub11))
              have hmt11 : ∀ e ∈ es8, heO e ∈ tl11 := fun e he => hsub11 _ (List.mem_map_of_mem (f := heO) he)
              have hlaw : ∀ s : Nat, s < 8 → IntMulOk (((List.range 8).map (termF sums (spanF xs7) s)).sum + (0 + (s : Int))) fac ∧ IntMulOk 8 fac ∧ IntMulOk (0 + (s : Int)) fac ∧ 8 * fac ≠ 0 ∧ Builtin.Int.intBits (8 * fac) ≤ 4000 ∧ (Builtin.Int.intBits ((((List.range 8).map (termF sums (spanF xs7) s)).sum + (0 + (s : Int))) * fac) : Int) ≤ 100 * (Builtin.Int.intBits (8 * fac) : Int) ∧ ((((List.range 8).map (termF sums (spanF xs7) s)).sum + (0 + (s : Int))) * fac).fdiv (8 * fac) = (((getF (nameF (maskP s)) es8).map toldN)).sum ∧ ((((List.range 8).map (termF sums (spanF xs7) s)).sum + (0 + (s : Int))) * fac).fmod (8 * fac) = (0 + (s : Int)) * fac := by
                intro s hs
                rw [hsums]
                obtain ⟨p1, p2⟩ := hpl7 es8 hem8 s hs
                obtain ⟨f1, f2⟩ := hfac2
                exact fin_facts p1 (idx_lo s) (idx_hi (n := 8) hs) f1 f2 p2
              k_steps
              refine LoopHere.mk ?_
              refine' LCt.CompSrcT.range (n := 3) rfl ?F12 ?N12 ?R12 ?S12 ?T12 (by decide) (fun g => ?_)
              case F12 => k_asm
              case N12 => k_asm
              case R12 => assumption
              case S12 => rfl
              case T12 => rfl
              refine restT_inv (fun i zs news' => news' = _ ∧ StrsAre zs (nameZ (maskP i11) i)) ?turn12 ?fin12 _ 0 [] _ (Nat.zero_add _) ⟨rfl, .nil⟩
              case turn12 =>
                rintro i6 zs news' v I oI C oC D m₂ h8 tk8 E' hi ⟨rfl, hzs⟩ ⟨tv, rfl⟩ hns9 hkv F9 N9 o9 hne
                k_steps
                · with_reducible rename (_ = (0 : Int)) => hc
                  refine CompEnd.intro (by k_asm) (by k_asm) _ (fun _ h => h) o9 trivial ⟨rfl, ?_⟩
                  rw [nameZ_yes (p := maskP i11) (mask_yes hc)]; exact strs_snoc hzs
                · with_reducible rename (_ ≠ (0 : Int)) => hc
                  refine CompEnd.intro (by k_asm) (by k_asm) _ (fun _ h => h) o9 trivial ⟨rfl, ?_⟩
                  rw [nameZ_no (p := maskP i11) (mask_no hc)]; exact hzs
              case fin12 =>
                rintro zs news' ⟨rfl, hzs⟩ D7 h8 tk8 F9 N9 o9
                repeat ((have q9 := off1_hd o9); (replace o9 := off1_tl o9))
                have hzl := name_sum (maskP i11)
                have hod : IntsAre [Value.int 0 tk10, Value.int 1 (tk10 + 1), Value.int 1 (tk10 + 1 + 1), Value.int 0 (tk10 + 1 + 1 + 1), Value.int 1 (tk10 + 1 + 1 + 1 + 1), Value.int 0 (tk10 + 1 + 1 + 1 + 1 + 1), Value.int 0 (tk10 + 1 + 1 + 1 + 1 + 1 + 1), Value.int 1 (tk10 + 1 + 1 + 1 + 1 + 1 + 1 + 1)] oddL := .cons _ _ (.cons _ _ (.cons _ _ (.cons _ _ (.cons _ _ (.cons _ _ (.cons _ _ (.cons _ _ .nil)))))))
                k_steps
                refine LoopHere.mk ?_
                refine' LCg.CompSrc.range (n := 8) rfl ?F13 ?N13 ?R13 ?S13 ?T13 (by decide) (fun g => ?_)
                case F13 => k_asm
                case N13 => k_asm
                case R13 => assumption
                case S13 => rfl
                case T13 => rfl
                refine restU_inv (fun i ys news' => news' = _ ∧ IntsAre ys ((List.range i).map (termF sums (spanF xs7) i11))) ?turn13 ?fin13 _ 0 [] _ (Nat.zero_add _) ⟨rfl, .nil⟩
                case turn13 =>
                  rintro i7 ys news' v I oI C oC D m₂ h tk E' hi ⟨rfl, hys⟩ ⟨tv, rfl⟩ hns9 hkv F9 N9 o9 hne
                  have hk1 : (0 : Int) + (i7 : Int) < ((spanF xs7).length : Int) := by rw [span_len, hxl]; exact idx_hi hi
                  have hk2 : (0 : Int) + (i7 : Int) < 2 ^ 63 := idx_fit (Nat.lt_trans hi (by decide))
                  have hk3 := (span_at hx16 (0 + (i7 : Int)).toNat).1
                  have hk4 : (spanF xs7).getD (0 + (i7 : Int)).toNat 0 < (sums.length : Int) := by rw [hsl]; exact (span_at hx16 _).2
                  have hk5 : (spanF xs7).getD (0 + (i7 : Int)).toNat 0 < 2 ^ 63 := Int.lt_trans (span_at hx16 _).2 (by decide)
                  have hk6 := (band8 i7 hi i11 hi11).1
                  have hk7 : Builtin.bitAnd (0 + (i7 : Int)) (0 + (i11 : Int)) < (oddL.length : Int) := (band8 i7 hi i11 hi11).2
                  have hk9 : IntMulOk (sums.getD ((spanF xs7).getD (0 + (i7 : Int)).toNat 0).toNat 0) (1 - 2 * oddL.getD (Builtin.bitAnd (0 + (i7 : Int)) (0 + (i11 : Int))).toNat 0) := IntMulOk.of_right (odd_small _)
                  have hk8 : Builtin.bitAnd (0 + (i7 : Int)) (0 + (i11 : Int)) < 2 ^ 63 := Int.lt_trans (band8 i7 hi i11 hi11).2 (by decide)
                  k_steps
                  refine CompEnd.intro (by k_asm) (by k_asm) _ (fun _ h => h) o9 trivial ⟨rfl, ?_⟩
                  exact grow_snoc hys rfl
                case fin13 =>
                  rintro ys news' ⟨rfl, hys⟩ D8 h tk F9 N9 o9
                  repeat ((have q9 := off1_hd o9); (replace o9 := off1_tl o9))
                  have hnl1 := name_len (maskP i11)
                  have hnl2 := name_lenU (maskP i11)
                  k_steps
                  refine LoopHere.mk ?_
                  refine ifexp_join (fun x => x.length ≤ 5592405 ∧ Txt.lower x = nameF (maskP i11)) ?_ (fun x9 t9 k9 hx9 => ?_)
                  · have mk8 := LoopHere.mk True.intro
                    k_steps
                    all_goals first
                      | exact TextEnd.mk ⟨hnl2, name_lowU _⟩
                      | exact TextEnd.mk ⟨hnl1, name_low _⟩
                  · obtain ⟨hxl9, hxw9⟩ := hx9
                    have hnh1 : ∀ q, q < (Txt.lower x9).cps.size → NoHit nameCode ((Txt.lower x9).cps.getD q 0) := by rw [hxw9]; exact name_hit _
                    have hns1 : (Txt.lower x9).cps.size < 2 ^ 63 := by rw [hxw9]; exact name_size _
                    k_steps
                    refine LoopHere.mk ?_
                    with_reducible rename News _ _ _ _ => nN7
                    with_reducible rename Fr _ _ _ _ => fF7
                    refine getallU (es := es8) nN7 (by walk_at "MEM") (by walk_at "MEM") (by walk_at "MEM") (fun e he => (show ∀ p ∈ tl11, p ∈ _ from by walk_at "SUB3") _ (hmt11 e he)) (by with_reducible assumption) (by with_reducible assumption) (by with_reducible assumption) (es_names hem8) (es_len hem8) (by k_asm) fF7 (by k_asm) (by k_asm) (by assumption) (by assumption) (by ktr_room) (by ktr_units) ?_
                    intro l9 vs9 kk9 h9 tk9 i19 l19 F19 N19
                    rw [hxw9] at i19
                    k_steps
                    refine LoopHere.mk ?_
                    with_reducible rename News _ _ _ _ => nN8
                    with_reducible rename Fr _ _ _ _ => fF8
                    refine LCg.CompSrc.ledger rfl fF8 nN8 (by walk_at "MEM") (by rw [List.size_toArray, strs_len i19]; exact getF_len hem8 _) (fun g => ?_)
                    refine restU_inv (fun i ys news' => news' = _ ∧ IntsAre ys (((getF (nameF (maskP i11)) es8).map toldN).take i)) ?_ ?_ _ 0 [] _ (Nat.zero_add _) ⟨rfl, .nil⟩
                    · rintro i7 ys news' v I oI C oC D m₂ h tk E' hi ⟨rfl, hys⟩ hP hns9 hkv F9 N9 o9 hne
                      obtain ⟨y, ty, rfl, hy⟩ := strs_at i19 i7 v (by simpa using hP)
                      have ht1 := (es_texts hem8 _ y (List.mem_of_getElem? hy)).1
                      have ht2 := (es_texts hem8 _ y (List.mem_of_getElem? hy)).2
                      clear hP
                      k_steps
                      refine CompEnd.intro (by k_asm) (by k_asm) _ (fun _ h => h) o9 (.inr ⟨_, by walk_at "MEM", rfl, _, rfl⟩) ⟨rfl, ?_⟩
                      exact told_snoc hy hys
                    · rintro ys news' ⟨rfl, hys⟩ D9' h tk F9 N9 o9
                      rw [List.size_toArray, strs_len i19, ← List.length_map (f := toldN), List.take_length] at hys
                      repeat ((have q9 := off1_hd o9); (replace o9 := off1_tl o9))
                      obtain ⟨hm1, hm2, hm3, hb0, hb1, hb2, hq1, hq2⟩ := hlaw i11 hi11
                      k_steps
                      refine LoopHere.mk ?_
                      with_reducible rename News _ _ _ _ => nN9
                      with_reducible rename Fr _ _ _ _ => fF9
                      have N5 : News _ _ _ ((68, tabObj psI) :: (75, tabObj psD) :: (s₁.heap.objs.size + 1 + 1 + 1 + 1 + 1 + 1 + 1 + 1 + 1, _) :: tl11) := news_three nN9 (by walk_at "MEM") (by walk_at "MEM") (by walk_at "MEM") (by walk_at "SUB3")
                      refine Spec.use (dvm w _ _ _ _ hb0 hb1 hb2 psI psD (_ :: tl11) (st2_cons hst11 (by with_reducible assumption))) rfl (by k_asm) fF9 (by k_asm) N5 (by k_asm) (by assumption) (by assumption) (by ktr_room) (by ktr_units) ?_
                      intro v' news' h' tk' F' N' P'
                      obtain ⟨x9, t1, t2, e1, ⟨cI, oI, vI, tI, cD, oD, vD, tD, e2, a1, a2, a3, a4, a5, a6⟩, l2, l1⟩ := P'
                      subst e1
                      subst e2
                      rw [hq1, hq2] at N'
                      k_steps
                      with_reducible rename News _ _ _ _ => nNz
                      with_reducible rename Fr _ _ _ _ => fFz
                      exact s_end fFz nNz (fun h => h) (by intro y e1 e2 e3 e4; simp only [if_neg e1, if_neg e2, if_neg e3, if_neg e4]) (by walk_at "MEM") (by walk_at "MEM") (by walk_at "MEM") (by walk_at "MEM") (by walk_at "MEM") (by walk_at "SUB3") (by with_reducible assumption) a1 a2 a3 a4 a5 a6
            case done11 =>
              intro w1 w2 w3 w4 psI psD h12 tk12 gs12 hg12 F16 N16
              k_steps
              exact ⟨rfl, fun b o e => F16.keep b o e, rfl, hg12 (hg10 (hg8 (hg6 (AllBare.of_eq hg)))), ⟨psD, (N16 _ (.tail _ (.head _))).1⟩, ⟨psI, (N16 _ (.head _)).1⟩, trivial⟩
end
end
end Mine
theorem PySem.Challenge.cw_sw0076_02_holds : PySem.Challenge.rw_sw0076_02.Holds := by
  exact Mine.law0
