import PyProof.Rows.All
import Wide.All
import OpenK.AllK
import Wide.FinOn
import KE.BitLaws
import KE.KBytesWalk
import KE.KRevIter
import KE.KListMore
import KE.BytesMake
import KE.RegLcTurns
import KE.KTurns
import PyProof.Draws
import PySem.Challenge.RW_of0047_01
set_option Elab.async false
section
open PySem PySem.W PyProof.Rows
set_option Elab.async false
set_option maxRecDepth 100000
set_option maxHeartbeats 8000000
namespace Mine
open_top hd47 for PySem.Challenge.rw_of0047_01
end Mine
end
section
local macro_rules | `(tactic| walk_at $s:str) => `(tactic| k_extra $s)
local macro_rules | `(tactic| k_mem) => `(tactic| k_extra "M")
section
open PySem PySem.W PyProof.Rows
namespace Mine
noncomputable def nthS : List Stmt → Nat → Stmt
  | [], _ => .Pass ⟨0, 0, 0, 0⟩
  | x :: _, 0 => x
  | _ :: r, n + 1 => nthS r n
noncomputable def bodyS : Stmt → List Stmt
  | .FunctionDef _ _ b _ _ _ _ _ _ _ => b
  | _ => []
noncomputable def argsS : Stmt → Arguments
  | .FunctionDef _ a _ _ _ _ _ _ _ _ => a
  | _ => { posonlyargs := [], args := [], vararg := none, kwonlyargs := [], kw_defaults := [], kwarg := none, defaults := [] }
noncomputable def scopeS : Stmt → Scope
  | .FunctionDef _ _ _ _ _ _ s _ _ _ => s
  | _ => default
noncomputable def forS : Stmt → List Stmt
  | .For _ _ b _ _ => b
  | _ => []
noncomputable def whileS : Stmt → List Stmt
  | .While _ b _ _ => b
  | _ => []
noncomputable def topS (n : Nat) : Stmt := nthS PySem.Challenge.pw_of0047_01.main.body n
noncomputable def d2iIn : Stmt := nthS (bodyS (topS 6)) 0
noncomputable def i2dIn : Stmt := nthS (bodyS (topS 5)) 1
end Mine
end
section
open PySem
namespace Mine
noncomputable def valD (n : Nat) : List Int → Int
  | [] => 0
  | d :: r => d + 2 ^ n * valD n r
theorem valD_append (n : Nat) : ∀ xs ys : List Int, valD n (xs ++ ys) = valD n xs + 2 ^ (n * xs.length) * valD n ys
  | [], ys => by simp [valD]
  | x :: xs, ys => by
    have e : (2 : Int) ^ (n * (xs.length + 1)) = 2 ^ n * 2 ^ (n * xs.length) := by rw [Nat.mul_succ, Nat.add_comm, Int.pow_add]
    simp only [List.cons_append, valD, valD_append n xs ys, List.length_cons, e]
    rw [Int.mul_add, Int.mul_assoc, Int.add_assoc]
theorem valD_bound (n : Nat) : ∀ xs : List Int, (∀ x ∈ xs, 0 ≤ x ∧ x < 2 ^ n) → 0 ≤ valD n xs ∧ valD n xs < 2 ^ (n * xs.length)
  | [], _ => by simp [valD]
  | x :: xs, h => by
    have ih := valD_bound n xs fun y hy => h y (.tail _ hy)
    have hx := h x (.head _)
    have e : (2 : Int) ^ (n * (xs.length + 1)) = 2 ^ n * 2 ^ (n * xs.length) := by rw [Nat.mul_succ, Nat.add_comm, Int.pow_add]
    simp only [valD, List.length_cons, e]
    have hp : (0 : Int) < 2 ^ n := Int.pow_pos (by decide)
    refine ⟨Int.add_nonneg hx.1 (Int.mul_nonneg (Int.le_of_lt hp) ih.1), ?_⟩
    have h1 : (2 : Int) ^ n * (valD n xs + 1) ≤ 2 ^ n * 2 ^ (n * xs.length) := Int.mul_le_mul_of_nonneg_left (by (first | lia | omega)) (Int.le_of_lt hp)
    rw [Int.mul_add, Int.mul_one] at h1
    (first | lia | omega)
theorem bits_lt {a : Int} {k : Nat} (h0 : 0 ≤ a) (h : a < 2 ^ k) : Builtin.Int.intBits a ≤ k := by
  unfold Builtin.Int.intBits
  split
  · exact Nat.zero_le _
  · rename_i hne
    have hne : a ≠ 0 := by simpa using hne
    have hn : a.natAbs ≠ 0 := by (first | lia | omega)
    have : a.natAbs < 2 ^ k := by
      have h2 : ((a.natAbs : Nat) : Int) < ((2 ^ k : Nat) : Int) := by rw [Int.natAbs_of_nonneg h0]; push_cast; exact h
      exact Int.ofNat_lt.mp h2
    exact (Nat.log2_lt hn).mpr this
noncomputable def part (xs : List Int) (i j : Int) : List Int := (xs.drop i.toNat).take (j - i).toNat
theorem part_length {xs : List Int} {i j : Int} (h0 : 0 ≤ i) (h1 : i ≤ j) (h2 : j ≤ xs.length) : (part xs i j).length = (j - i).toNat := by
  unfold part
  rw [List.length_take, List.length_drop]
  (first | lia | omega)
theorem part_join {xs : List Int} {i k j : Int} (h0 : 0 ≤ i) (h1 : i ≤ k) (h2 : k ≤ j) : part xs i j = part xs i k ++ part xs k j := by
  unfold part
  have e1 : (j - i).toNat = (k - i).toNat + (j - k).toNat := by (first | lia | omega)
  have e2 : k.toNat = i.toNat + (k - i).toNat := by (first | lia | omega)
  rw [e1, List.take_add, e2, List.drop_drop]
theorem part_one {xs : List Int} {i : Int} (h0 : 0 ≤ i) (h1 : i < xs.length) : part xs i (i + 1) = [xs.getD i.toNat 0] := by
  unfold part
  have e : (i + 1 - i).toNat = 1 := by (first | lia | omega)
  have hl : i.toNat < xs.length := by (first | lia | omega)
  rw [e, List.drop_eq_getElem_cons hl, List.take_succ_cons, List.take_zero, List.getD_eq_getElem?_getD, List.getElem?_eq_getElem hl]
  rfl
theorem part_all {xs : List Int} : part xs 0 xs.length = xs := by
  unfold part
  simp
theorem part_mem {xs : List Int} {i j : Int} {x : Int} (h : x ∈ part xs i j) : x ∈ xs := List.mem_of_mem_drop (List.mem_of_mem_take h)
theorem half_facts (i j : Int) : (i + j).fdiv (2 ^ Int.toNat 1) = (i + j) / 2 := by
  have : (2 : Int) ^ Int.toNat 1 = 2 := rfl
  rw [this, Int.fdiv_eq_ediv_of_nonneg _ (by decide)]
theorem valD_split {n : Nat} {ns : List Int} {i k j : Int} (h0 : 0 ≤ i) (h1 : i ≤ k) (h2 : k ≤ j) (h3 : j ≤ ns.length) :
    valD n (part ns k j) * 2 ^ ((k - i) * (n : Int)).toNat + valD n (part ns i k) = valD n (part ns i j) := by
  rw [part_join h0 h1 h2, valD_append, part_length h0 h1 (by (first | lia | omega))]
  have e : ((k - i) * (n : Int)).toNat = n * (k - i).toNat := by
    have : (k - i) * (n : Int) = ((n * (k - i).toNat : Nat) : Int) := by
      push_cast
      rw [Int.toNat_of_nonneg (by (first | lia | omega)), Int.mul_comm]
    rw [this, Int.toNat_natCast]
  rw [e, Int.mul_comm, Int.add_comm]
end Mine
end
section
open PySem PyProof.Rows
namespace Mine
noncomputable def dg (n : Nat) : Nat → Int → List Int
  | 0, _ => []
  | 1, x => [x]
  | k + 2, x => x % 2 ^ n :: dg n (k + 1) (x / 2 ^ n)
theorem dg_length (n : Nat) : ∀ k x, (dg n k x).length = k
  | 0, _ => rfl
  | 1, _ => rfl
  | k + 2, x => by simp [dg, dg_length n (k + 1)]
theorem pow_ne (n : Nat) : (2 : Int) ^ n ≠ 0 := Int.ne_of_gt (Int.pow_pos (by decide))
theorem pow_pos' (n : Nat) : (0 : Int) < 2 ^ n := Int.pow_pos (by decide)
theorem ediv_pow (x : Int) (a b : Nat) : x / 2 ^ a / 2 ^ b = x / 2 ^ (a + b) := by
  rw [Int.pow_add, Int.ediv_ediv_of_nonneg (Int.le_of_lt (pow_pos' a))]
theorem emod_mul_ediv' (x : Int) {a b : Int} (ha : 0 < a) : x % (a * b) / a = x / a % b := by
  have h1 : x % (a * b) = x + a * (-(b * (x / (a * b)))) := by
    have := Int.emod_add_mul_ediv x (a * b)
    rw [Int.mul_neg, ← Int.mul_assoc]
    (first | lia | omega)
  have h2 : x / (a * b) = x / a / b := (Int.ediv_ediv_of_nonneg (Int.le_of_lt ha)).symm
  rw [h1, Int.add_mul_ediv_left _ _ (Int.ne_of_gt ha), h2]
  have := Int.emod_add_mul_ediv (x / a) b
  (first | lia | omega)
theorem dg_join (n : Nat) : ∀ (i j : Nat) (x : Int), dg n (i + 1 + (j + 1)) x = dg n (i + 1) (x % 2 ^ (n * (i + 1))) ++ dg n (j + 1) (x / 2 ^ (n * (i + 1)))
  | 0, j, x => by
    have e : 0 + 1 + (j + 1) = j + 2 := by (first | lia | omega)
    rw [e]
    simp [dg]
  | i + 1, j, x => by
    have e : i + 1 + 1 + (j + 1) = (i + 1 + j) + 2 := by (first | lia | omega)
    rw [e]
    have e2 : i + 1 + j + 1 = i + 1 + (j + 1) := by (first | lia | omega)
    have h1 : x % 2 ^ (n * (i + 1 + 1)) % 2 ^ n = x % 2 ^ n := Int.emod_emod_of_dvd _ (by rw [Nat.mul_succ, Nat.add_comm, Int.pow_add]; exact Int.dvd_mul_right _ _)
    have h2 : x % 2 ^ (n * (i + 1 + 1)) / 2 ^ n = x / 2 ^ n % 2 ^ (n * (i + 1)) := by
      rw [show n * (i + 1 + 1) = n + n * (i + 1) by rw [Nat.mul_succ, Nat.add_comm], Int.pow_add]
      exact emod_mul_ediv' _ (pow_pos' n)
    have h3 : x / 2 ^ n / 2 ^ (n * (i + 1)) = x / 2 ^ (n * (i + 1 + 1)) := by
      rw [ediv_pow, show n * (i + 1 + 1) = n + n * (i + 1) by rw [Nat.mul_succ, Nat.add_comm]]
    simp only [dg, e2, dg_join n i j (x / 2 ^ n), h1, h2, h3, List.cons_append]
theorem and_high (x s : Nat) : x &&& (x / 2 ^ s * 2 ^ s) = x / 2 ^ s * 2 ^ s := by
  apply Nat.eq_of_testBit_eq
  intro i
  rw [Nat.testBit_and, ← Nat.shiftRight_eq_div_pow, ← Nat.shiftLeft_eq, Nat.testBit_shiftLeft, Nat.testBit_shiftRight]
  by_cases h : s ≤ i
  · simp [h, show s + (i - s) = i by (first | lia | omega)]
  · simp [h]
theorem xor_low {x : Int} (hx : 0 ≤ x) (s : Nat) : Builtin.bitXor x (x / 2 ^ s * 2 ^ s) = x % 2 ^ s := by
  have hy : 0 ≤ x / 2 ^ s * 2 ^ s := Int.mul_nonneg (Int.ediv_nonneg hx (Int.le_of_lt (pow_pos' s))) (Int.le_of_lt (pow_pos' s))
  have e : (x / 2 ^ s * 2 ^ s).toNat = x.toNat / 2 ^ s * 2 ^ s := by
    obtain ⟨k, rfl⟩ := Int.eq_ofNat_of_zero_le hx
    have : ((k : Nat) : Int) / 2 ^ s * 2 ^ s = ((k / 2 ^ s * 2 ^ s : Nat) : Int) := by push_cast; rfl
    rw [this, Int.toNat_natCast, Int.toNat_natCast]
  rw [bitXor_and, bitAnd_pp hx hy, e, and_high, ← e, Int.toNat_of_nonneg hy]
  have := Int.emod_add_mul_ediv x (2 ^ s)
  rw [Int.mul_comm] at this
  (first | lia | omega)
noncomputable def putL (ns : List Int) (i : Nat) (ds : List Int) : List Int := ns.take i ++ ds ++ ns.drop (i + ds.length)
theorem putL_length {ns : List Int} {i : Nat} {ds : List Int} (h : i + ds.length ≤ ns.length) : (putL ns i ds).length = ns.length := by
  unfold putL
  simp only [List.length_append, List.length_take, List.length_drop]
  (first | lia | omega)
theorem putL_one {ns : List Int} {i : Nat} {x : Int} (h : i < ns.length) : ns.set i x = putL ns i [x] := by
  unfold putL
  rw [List.set_eq_take_append_cons_drop]
  simp [h]
theorem putL_putL {ns : List Int} {i : Nat} {as bs : List Int} (h : i + as.length + bs.length ≤ ns.length) : putL (putL ns i as) (i + as.length) bs = putL ns i (as ++ bs) := by
  unfold putL
  have h1 : (ns.take i ++ as).length = i + as.length := by simp; (first | lia | omega)
  rw [List.take_append_of_le_length (by (first | lia | omega)), List.take_of_length_le (by (first | lia | omega)), List.drop_append, h1]
  have h2 : (ns.take i ++ as).drop (i + as.length + bs.length) = [] := List.drop_of_length_le (by (first | lia | omega))
  rw [h2, List.drop_drop]
  simp only [List.nil_append, List.append_assoc, List.length_append]
  congr 4
  (first | lia | omega)
theorem putL_all {ns ds : List Int} (h : ds.length = ns.length) : putL ns 0 ds = ds := by
  unfold putL
  simp [h]
theorem toNat_mul_cast {a : Int} {n : Nat} (h : 0 ≤ a) : (a * (n : Int)).toNat = n * a.toNat := by
  have : a * (n : Int) = ((n * a.toNat : Nat) : Int) := by
    push_cast
    rw [Int.toNat_of_nonneg h, Int.mul_comm]
  rw [this, Int.toNat_natCast]
theorem put_halves {ns : List Int} {n : Nat} {x i k j : Int} (h0 : 0 ≤ i) (h1 : i < k) (h2 : k < j) (h3 : j ≤ ns.length) :
    putL (putL ns i.toNat (dg n (k - i).toNat (x % 2 ^ ((k - i) * (n : Int)).toNat))) k.toNat (dg n (j - k).toNat (x / 2 ^ ((k - i) * (n : Int)).toNat)) = putL ns i.toNat (dg n (j - i).toNat x) := by
  rw [toNat_mul_cast (by (first | lia | omega))]
  obtain ⟨a, ha⟩ : ∃ a, (k - i).toNat = a + 1 := ⟨(k - i).toNat - 1, by (first | lia | omega)⟩
  obtain ⟨b, hb⟩ : ∃ b, (j - k).toNat = b + 1 := ⟨(j - k).toNat - 1, by (first | lia | omega)⟩
  have hc : (j - i).toNat = a + 1 + (b + 1) := by (first | lia | omega)
  have hk : k.toNat = i.toNat + (dg n (a + 1) (x % 2 ^ (n * (a + 1)))).length := by rw [dg_length]; (first | lia | omega)
  rw [ha, hb, hc, dg_join, hk, putL_putL]
  rw [dg_length, dg_length]
  (first | lia | omega)
theorem low_facts {x : Int} (hx : 0 ≤ x) (s : Nat) : Builtin.bitXor x (x.fdiv (2 ^ s) * 2 ^ s) = x % 2 ^ s := by
  rw [Int.fdiv_eq_ediv_of_nonneg _ (Int.le_of_lt (pow_pos' s))]
  exact xor_low hx s
theorem high_facts (x : Int) (s : Nat) : x.fdiv (2 ^ s) = x / 2 ^ s := Int.fdiv_eq_ediv_of_nonneg _ (Int.le_of_lt (pow_pos' s))
theorem bits_mono {x y : Int} {m : Nat} (h0 : 0 ≤ x) (h : x ≤ y) (hy : Builtin.Int.intBits y ≤ m) : Builtin.Int.intBits x ≤ m := by
  unfold Builtin.Int.intBits at *
  split
  · exact Nat.zero_le _
  · rename_i hx
    have hx : x ≠ 0 := by simpa using hx
    have hy0 : ¬ (y == 0) = true := by simp; (first | lia | omega)
    rw [if_neg hy0] at hy
    have h1 : x.natAbs ≠ 0 := by (first | lia | omega)
    have h2 : y.natAbs ≠ 0 := by (first | lia | omega)
    have h3 : y.natAbs < 2 ^ m := (Nat.log2_lt h2).mp hy
    exact (Nat.log2_lt h1).mpr (by (first | lia | omega))
theorem mod_le {x : Int} (hx : 0 ≤ x) (s : Nat) : 0 ≤ x % 2 ^ s ∧ x % 2 ^ s ≤ x := by
  refine ⟨Int.emod_nonneg _ (pow_ne s), ?_⟩
  have h := Int.emod_add_mul_ediv x (2 ^ s)
  have h2 := Int.mul_nonneg (Int.le_of_lt (pow_pos' s)) (Int.ediv_nonneg hx (Int.le_of_lt (pow_pos' s)))
  (first | lia | omega)
theorem div_le {x : Int} (hx : 0 ≤ x) (s : Nat) : 0 ≤ x / 2 ^ s ∧ x / 2 ^ s ≤ x := ⟨Int.ediv_nonneg hx (Int.le_of_lt (pow_pos' s)), Int.ediv_le_self _ hx⟩
end Mine
end
section
open PySem PyProof.Rows
namespace Mine
theorem dg_value (n : Nat) : ∀ (k : Nat) (x : Int), valD n (dg n (k + 1) x) = x
  | 0, x => by simp [dg, valD]
  | k + 1, x => by
    show x % 2 ^ n + 2 ^ n * valD n (dg n (k + 1) (x / 2 ^ n)) = x
    rw [dg_value n k, Int.emod_add_mul_ediv]
theorem dg_range (n : Nat) : ∀ (k : Nat) (x : Int), 0 ≤ x → x < 2 ^ (n * (k + 1)) → ∀ d ∈ dg n (k + 1) x, 0 ≤ d ∧ d < 2 ^ n
  | 0, x, h0, h1, d, hd => by
    simp [dg] at hd
    subst hd
    rw [Nat.zero_add, Nat.mul_one] at h1
    exact ⟨h0, h1⟩
  | k + 1, x, h0, h1, d, hd => by
    have hd : d ∈ x % 2 ^ n :: dg n (k + 1) (x / 2 ^ n) := hd
    rcases List.mem_cons.mp hd with rfl | hd
    · exact ⟨Int.emod_nonneg _ (pow_ne n), Int.emod_lt_of_pos _ (pow_pos' n)⟩
    · refine dg_range n k (x / 2 ^ n) (Int.ediv_nonneg h0 (Int.le_of_lt (pow_pos' n))) ?_ d hd
      refine Int.ediv_lt_of_lt_mul (pow_pos' n) ?_
      rw [← Int.pow_add]
      rw [show n * (k + 1) + n = n * (k + 1 + 1) by rw [Nat.mul_succ n (k + 1)]]
      exact h1
theorem lt_pow_bits {x : Int} (h0 : 0 ≤ x) : x < 2 ^ (Builtin.Int.intBits x) := by
  unfold Builtin.Int.intBits
  split
  · rename_i h
    have h : x = 0 := by simpa using h
    rw [h]; decide
  · have h : x.natAbs < 2 ^ (x.natAbs.log2 + 1) := Nat.lt_log2_self
    have h2 : ((x.natAbs : Nat) : Int) < ((2 ^ (x.natAbs.log2 + 1) : Nat) : Int) := Int.ofNat_lt.mpr h
    rw [Int.natAbs_of_nonneg h0] at h2
    push_cast at h2
    exact h2
theorem pow_mono {a b : Nat} (h : a ≤ b) : (2 : Int) ^ a ≤ 2 ^ b := by
  have := Nat.pow_le_pow_right (n := 2) (by decide) h
  have h2 : ((2 ^ a : Nat) : Int) ≤ ((2 ^ b : Nat) : Int) := Int.ofNat_le.mpr this
  push_cast at h2
  exact h2
noncomputable def cnt (n : Nat) (x : Int) : Nat := (Builtin.Int.intBits x + n - 1) / n
theorem cnt_bits {n : Nat} (x : Int) (hn : 1 ≤ n) : Builtin.Int.intBits x ≤ n * cnt n x := by
  unfold cnt
  have h := Nat.div_add_mod (Builtin.Int.intBits x + n - 1) n
  have h2 := Nat.mod_lt (Builtin.Int.intBits x + n - 1) (show n > 0 by (first | lia | omega))
  (first | lia | omega)
theorem lt_cnt {n : Nat} {x : Int} (hn : 1 ≤ n) (h0 : 0 ≤ x) : x < 2 ^ (n * cnt n x) := Int.lt_of_lt_of_le (lt_pow_bits h0) (pow_mono (cnt_bits x hn))
theorem cnt_le {n : Nat} {x : Int} {c : Nat} (hn : 1 ≤ n) (h : Builtin.Int.intBits x ≤ n * c) : cnt n x ≤ c := by
  unfold cnt
  have h1 : Builtin.Int.intBits x + n - 1 < n * (c + 1) := by rw [Nat.mul_succ]; (first | lia | omega)
  exact Nat.lt_succ_iff.mp ((Nat.div_lt_iff_lt_mul (by (first | lia | omega))).mpr (by rw [Nat.mul_comm]; exact h1))
noncomputable def dstep (n : Nat) (b : Int) (st : Int × List Int) (d : Int) : Int × List Int := ((st.1 * 2 ^ n + d) % b, st.2 ++ [(st.1 * 2 ^ n + d) / b])
noncomputable def dfold (n : Nat) (b : Int) (ds : List Int) : Int × List Int := ds.foldl (dstep n b) (0, [])
theorem dfold_snoc (n : Nat) (b : Int) (ds : List Int) (d : Int) : dfold n b (ds ++ [d]) = dstep n b (dfold n b ds) d := by
  unfold dfold
  rw [List.foldl_append]
  rfl
theorem dfold_facts {n : Nat} {b : Int} (hb : 0 < b) : ∀ (es : List Int), (∀ d ∈ es, 0 ≤ d ∧ d < 2 ^ n) →
    (0 ≤ (dfold n b es.reverse).1 ∧ (dfold n b es.reverse).1 < b) ∧ (∀ q ∈ (dfold n b es.reverse).2, 0 ≤ q ∧ q < 2 ^ n) ∧ (dfold n b es.reverse).2.length = es.length ∧
      valD n es = b * valD n (dfold n b es.reverse).2.reverse + (dfold n b es.reverse).1 := by
  intro es
  induction es with
  | nil => intro _; simp [dfold, valD, hb]
  | cons d es ih =>
    intro h
    obtain ⟨⟨r0, r1⟩, hq, hl, hv⟩ := ih fun e he => h e (.tail _ he)
    obtain ⟨d0, d1⟩ := h d (.head _)
    have hp := pow_pos' n
    rw [List.reverse_cons, dfold_snoc]
    generalize hR : (dfold n b es.reverse).1 = r at *
    generalize hQ : (dfold n b es.reverse).2 = qs at *
    simp only [dstep, hR, hQ]
    have hnn : 0 ≤ r * 2 ^ n + d := Int.add_nonneg (Int.mul_nonneg r0 (Int.le_of_lt hp)) d0
    have hlt : r * 2 ^ n + d < 2 ^ n * b := by
      have h1 : (r + 1) * 2 ^ n ≤ b * 2 ^ n := Int.mul_le_mul_of_nonneg_right (by (first | lia | omega)) (Int.le_of_lt hp)
      rw [Int.add_mul, Int.one_mul, Int.mul_comm b] at h1
      (first | lia | omega)
    refine ⟨⟨Int.emod_nonneg _ (Int.ne_of_gt hb), Int.emod_lt_of_pos _ hb⟩, ?_, by simp [hl], ?_⟩
    · intro q hq'
      rcases List.mem_append.mp hq' with hq' | hq'
      · exact hq q hq'
      · rw [List.mem_singleton.mp hq']
        exact ⟨Int.ediv_nonneg hnn (Int.le_of_lt hb), Int.ediv_lt_of_lt_mul hb hlt⟩
    · simp only [List.reverse_append, List.reverse_cons, List.reverse_nil, List.nil_append, List.singleton_append, valD, hv]
      have e := Int.emod_add_mul_ediv (r * 2 ^ n + d) b
      rw [Int.mul_add, Int.mul_add]
      rw [Int.mul_comm r] at e
      rw [Int.mul_comm r]
      have e2 : (2 : Int) ^ n * (b * valD n qs.reverse) = b * (2 ^ n * valD n qs.reverse) := by rw [← Int.mul_assoc, Int.mul_comm (2 ^ n) b, Int.mul_assoc]
      rw [e2]
      (first | lia | omega)
theorem div_unique {a b q r : Int} (hb : 0 < b) (h : a = b * q + r) (h0 : 0 ≤ r) (h1 : r < b) : q = a / b ∧ r = a % b := by
  have h2 : a / b = q := by rw [h, Int.add_comm, Int.add_mul_ediv_left _ _ (Int.ne_of_gt hb), Int.ediv_eq_zero_of_lt h0 h1]; (first | lia | omega)
  have h3 := Int.emod_add_mul_ediv a b
  rw [h2] at h3
  exact ⟨h2.symm, by (first | lia | omega)⟩
theorem long_division {n : Nat} {a b : Int} (hn : 1 ≤ n) (ha : 0 ≤ a) (hc : 0 < cnt n a) (hb : 0 < b) :
    valD n (dfold n b (dg n (cnt n a) a).reverse).2.reverse = a / b ∧ (dfold n b (dg n (cnt n a) a).reverse).1 = a % b ∧ ∀ q ∈ (dfold n b (dg n (cnt n a) a).reverse).2, 0 ≤ q ∧ q < 2 ^ n := by
  obtain ⟨k, hk⟩ : ∃ k, cnt n a = k + 1 := ⟨cnt n a - 1, by (first | lia | omega)⟩
  have hlt := lt_cnt hn ha
  have hr := dg_range n k a ha (by rw [← hk]; exact hlt)
  obtain ⟨⟨r0, r1⟩, hq, _, hv⟩ := dfold_facts (n := n) hb (dg n (cnt n a) a) (fun d hd => hr d (by rw [← hk]; exact hd))
  have e : valD n (dg n (cnt n a) a) = a := by rw [hk, dg_value]
  rw [e] at hv
  have h := div_unique hb hv r0 r1
  exact ⟨h.1, h.2, hq⟩
end Mine
end
section
open PySem PyProof.Rows
namespace Mine
theorem cnt_pos {n : Nat} {x : Int} (hn : 1 ≤ n) (hx : x ≠ 0) : 0 < cnt n x := by
  unfold cnt
  have h : 1 ≤ Builtin.Int.intBits x := by
    unfold Builtin.Int.intBits
    rw [if_neg (by simpa using hx)]
    (first | lia | omega)
  exact Nat.div_pos (by (first | lia | omega)) (by (first | lia | omega))
theorem dfold_take {n : Nat} {b d : Int} {l : List Int} {i : Nat} (h : l[i]? = some d) : dfold n b (l.take (i + 1)) = dstep n b (dfold n b (l.take i)) d := by
  rw [List.take_succ, h]
  exact dfold_snoc n b (l.take i) d
theorem dturn {n : Nat} {a b : Int} (hn : 1 ≤ n) (ha : 0 < a) (hb : 0 < b) (i : Nat) :
    (0 ≤ (dfold n b ((dg n (cnt n a) a).reverse.take i)).1 ∧ (dfold n b ((dg n (cnt n a) a).reverse.take i)).1 < b) ∧ (dfold n b ((dg n (cnt n a) a).reverse.take i)).2.length ≤ cnt n a ∧ ∀ d ∈ dg n (cnt n a) a, 0 ≤ d ∧ d < 2 ^ n := by
  obtain ⟨k, hk⟩ : ∃ k, cnt n a = k + 1 := ⟨cnt n a - 1, by have := cnt_pos hn (x := a) (by (first | lia | omega)); (first | lia | omega)⟩
  have hlt := lt_cnt hn (x := a) (by (first | lia | omega))
  have hr := dg_range n k a (by (first | lia | omega)) (by rw [← hk]; exact hlt)
  have hr' : ∀ d ∈ dg n (cnt n a) a, 0 ≤ d ∧ d < 2 ^ n := by rw [hk]; exact hr
  have h := dfold_facts (n := n) hb ((dg n (cnt n a) a).reverse.take i).reverse (fun d hd => hr' d (List.mem_reverse.mp (List.mem_of_mem_take (List.mem_reverse.mp hd))))
  rw [List.reverse_reverse] at h
  refine ⟨h.1, ?_, hr'⟩
  rw [h.2.2.1, List.length_reverse, List.length_take, List.length_reverse, dg_length]
  (first | lia | omega)
theorem turn_bits {e : Nat} {r d : Int} (he : e ≤ 150) (r0 : 0 ≤ r) (r1 : r < 2 ^ e) (d0 : 0 ≤ d) (d1 : d < 2 ^ (e + 1)) :
    (Builtin.Int.intBits r : Int) + ((e + 1 : Nat) : Int) ≤ 2 ^ 27 ∧ (Builtin.Int.intBits (r * 2 ^ ((e + 1 : Nat) : Int).toNat + d) : Int) - ((e + 1 : Nat) : Int) ≤ 4000 := by
  have h1 := bits_lt r0 r1
  rw [Int.toNat_natCast]
  have h2 : r * 2 ^ (e + 1) + d < 2 ^ (e + (e + 1)) := by
    have h3 : (r + 1) * 2 ^ (e + 1) ≤ 2 ^ e * 2 ^ (e + 1) := Int.mul_le_mul_of_nonneg_right (by (first | lia | omega)) (Int.le_of_lt (pow_pos' _))
    rw [Int.add_mul, Int.one_mul, ← Int.pow_add] at h3
    (first | lia | omega)
  have h4 := bits_lt (Int.add_nonneg (Int.mul_nonneg r0 (Int.le_of_lt (pow_pos' (e + 1)))) d0) h2
  (first | lia | omega)
theorem dstep_value {e : Nat} {r d : Int} {qs : List Int} : dstep (e + 1) (2 ^ e) (r, qs) d =
    ((r * 2 ^ ((e + 1 : Nat) : Int).toNat + d).fmod (2 ^ e), qs ++ [(r * 2 ^ ((e + 1 : Nat) : Int).toNat + d).fdiv (2 ^ e)]) := by
  rw [Int.toNat_natCast, Int.fmod_eq_emod_of_nonneg _ (Int.le_of_lt (pow_pos' e)), Int.fdiv_eq_ediv_of_nonneg _ (Int.le_of_lt (pow_pos' e))]
  rfl
theorem dfold_len' (n : Nat) (b : Int) : ∀ (ds : List Int) (st : Int × List Int), (ds.foldl (dstep n b) st).2.length = st.2.length + ds.length
  | [], st => rfl
  | d :: ds, st => by
    rw [List.foldl_cons, dfold_len' n b ds]
    simp [dstep]
    (first | lia | omega)
theorem dfold_len (n : Nat) (b : Int) (ds : List Int) : (dfold n b ds).2.length = ds.length := by
  unfold dfold
  rw [dfold_len']
  simp
end Mine
end
section
open PySem PyProof.Rows
namespace Mine
noncomputable def b64L : List UInt8 := [65, 66, 67, 68, 69, 70, 71, 72, 73, 74, 75, 76, 77, 78, 79, 80, 81, 82, 83, 84, 85, 86, 87, 88, 89, 90, 97, 98, 99, 100, 101, 102, 103, 104, 105, 106, 107, 108, 109, 110, 111, 112, 113, 114, 115, 116, 117, 118, 119, 120, 121, 122, 48, 49, 50, 51, 52, 53, 54, 55, 56, 57, 43, 47]
noncomputable def code (k : Int) : Int := ((b64L.getD k.toNat 0).toNat : Int)
noncomputable def bstep (st : Int × Int × List Int) (b : Int) : Int × Int × List Int :=
  if st.1 = 0 then (2, b % 4, st.2.2 ++ [b / 4])
  else if st.1 = 2 then (4, b % 16, st.2.2 ++ [st.2.1 * 16 + b / 16])
  else (0, 0, st.2.2 ++ [st.2.1 * 4 + b / 64, b % 64])
noncomputable def bfold (bs : List Int) : Int × Int × List Int := bs.foldl bstep (0, 0, [])
theorem bfold_snoc (bs : List Int) (b : Int) : bfold (bs ++ [b]) = bstep (bfold bs) b := by
  unfold bfold
  rw [List.foldl_append]
  rfl
theorem bfold_take {bs : List Int} {b : Int} {i : Nat} (h : bs[i]? = some b) : bfold (bs.take (i + 1)) = bstep (bfold (bs.take i)) b := by
  rw [List.take_add_one, h]
  exact bfold_snoc _ b
theorem bstep_bits (st : Int × Int × List Int) (b : Int) : (bstep st b).1 = 0 ∨ (bstep st b).1 = 2 ∨ (bstep st b).1 = 4 := by
  unfold bstep
  split
  · exact .inr (.inl rfl)
  · split
    · exact .inr (.inr rfl)
    · exact .inl rfl
theorem bfold_bits' : ∀ (bs : List Int) (st : Int × Int × List Int), (st.1 = 0 ∨ st.1 = 2 ∨ st.1 = 4) → (bs.foldl bstep st).1 = 0 ∨ (bs.foldl bstep st).1 = 2 ∨ (bs.foldl bstep st).1 = 4
  | [], _, h => h
  | b :: bs, st, _ => by rw [List.foldl_cons]; exact bfold_bits' bs _ (bstep_bits st b)
theorem bfold_bits (bs : List Int) : (bfold bs).1 = 0 ∨ (bfold bs).1 = 2 ∨ (bfold bs).1 = 4 := bfold_bits' bs _ (.inl rfl)
theorem or_low {c b : Int} (hc : 0 ≤ c) (b0 : 0 ≤ b) (b1 : b < 256) : Builtin.bitOr (c * 2 ^ Int.toNat 8) b = c * 256 + b := by
  have e : (2 : Int) ^ Int.toNat 8 = 256 := rfl
  rw [e, bitOr_and, bitAnd_pp (by omega) b0]
  have h : (c * 256).toNat &&& b.toNat = 0 := by
    obtain ⟨k, rfl⟩ := Int.eq_ofNat_of_zero_le hc
    obtain ⟨j, rfl⟩ := Int.eq_ofNat_of_zero_le b0
    have hj : j < 2 ^ 8 := by omega
    have e1 : (((k : Nat) : Int) * 256).toNat = 2 ^ 8 * k := by omega
    rw [e1, Int.toNat_natCast]
    apply Nat.eq_of_testBit_eq
    intro i
    rw [Nat.testBit_and, Nat.zero_testBit, Nat.testBit_two_pow_mul]
    by_cases hi : 8 ≤ i
    · rw [Nat.testBit_lt_two_pow (Nat.lt_of_lt_of_le hj (Nat.pow_le_pow_right (by decide) hi))]
      simp
    · simp [hi]
  rw [h]
  simp
theorem lc_eq {c b : Int} (hc : 0 ≤ c) (b0 : 0 ≤ b) (b1 : b < 256) : Builtin.bitAnd (Builtin.bitOr (c * 2 ^ Int.toNat 8) b) 65535 = (c * 256 + b) % 65536 := by
  rw [or_low hc b0 b1, bitAnd_m16]
noncomputable abbrev lcT (c b : Int) : Int := Builtin.bitAnd (Builtin.bitOr (c * 2 ^ Int.toNat 8) b) 65535
theorem lc_bounds {c b : Int} (hc : 0 ≤ c) (b0 : 0 ≤ b) (b1 : b < 256) : 0 ≤ lcT c b ∧ lcT c b < 65536 := by
  unfold lcT
  rw [lc_eq hc b0 b1]
  (first | lia | omega)
theorem idx_fdiv (x : Int) (k : Nat) : Builtin.bitAnd (x.fdiv (2 ^ k)) 63 = x / 2 ^ k % 64 := by
  rw [bitAnd_m6, Int.fdiv_eq_ediv_of_nonneg _ (Int.le_of_lt (pow_pos' k))]
theorem lc_parts {c b : Int} (hc : 0 ≤ c) (b0 : 0 ≤ b) (b1 : b < 256) (k : Int) (hk : k ∣ 256) : ∃ h, lcT c b = 256 * h + b ∧ h % k = c % k := by
  refine ⟨c % 256, ?_, Int.emod_emod_of_dvd c hk⟩
  unfold lcT
  rw [lc_eq hc b0 b1]
  (first | lia | omega)
theorem turn0 {c b : Int} (hc : 0 ≤ c) (b0 : 0 ≤ b) (b1 : b < 256) : Builtin.bitAnd ((lcT c b).fdiv (2 ^ ((0 : Int) + 8 - 6).toNat)) 63 = b / 4 ∧ lcT c b % 2 ^ (2 : Int).toNat = b % 4 := by
  obtain ⟨h, e, _⟩ := lc_parts hc b0 b1 1 (by decide)
  rw [idx_fdiv, e]
  show (256 * h + b) / 4 % 64 = b / 4 ∧ (256 * h + b) % 4 = b % 4
  (first | lia | omega)
theorem turn2 {c b low : Int} (hc : 0 ≤ c) (b0 : 0 ≤ b) (b1 : b < 256) (h : c % 2 ^ (2 : Int).toNat = low) : Builtin.bitAnd ((lcT c b).fdiv (2 ^ ((2 : Int) + 8 - 6).toNat)) 63 = low * 16 + b / 16 ∧ lcT c b % 2 ^ (4 : Int).toNat = b % 16 := by
  obtain ⟨g, e, e2⟩ := lc_parts hc b0 b1 4 (by decide)
  rw [idx_fdiv, e, ← h]
  show (256 * g + b) / 16 % 64 = c % 4 * 16 + b / 16 ∧ (256 * g + b) % 16 = b % 16
  rw [← e2]
  (first | lia | omega)
theorem turn4 {c b low : Int} (hc : 0 ≤ c) (b0 : 0 ≤ b) (b1 : b < 256) (h : c % 2 ^ (4 : Int).toNat = low) : Builtin.bitAnd ((lcT c b).fdiv (2 ^ ((4 : Int) + 8 - 6).toNat)) 63 = low * 4 + b / 64 ∧
    Builtin.bitAnd ((lcT c b).fdiv (2 ^ ((4 : Int) + 8 - 6 - 6).toNat)) 63 = b % 64 ∧ lcT c b % 2 ^ (0 : Int).toNat = 0 := by
  obtain ⟨g, e, e2⟩ := lc_parts hc b0 b1 16 (by decide)
  rw [idx_fdiv, idx_fdiv, e, ← h]
  show (256 * g + b) / 64 % 64 = c % 16 * 4 + b / 64 ∧ (256 * g + b) / 1 % 64 = b % 64 ∧ (256 * g + b) % 1 = 0
  rw [← e2]
  (first | lia | omega)
theorem bstep0 (low : Int) (out : List Int) (b : Int) : bstep (0, low, out) b = (2, b % 4, out ++ [b / 4]) := rfl
theorem bstep2 (low : Int) (out : List Int) (b : Int) : bstep (2, low, out) b = (4, b % 16, out ++ [low * 16 + b / 16]) := rfl
theorem bstep4 (low : Int) (out : List Int) (b : Int) : bstep (4, low, out) b = (0, 0, out ++ [low * 4 + b / 64, b % 64]) := rfl
theorem bfold_len' : ∀ (bs : List Int) (st : Int × Int × List Int), (bs.foldl bstep st).2.2.length ≤ st.2.2.length + 2 * bs.length
  | [], st => by simp
  | b :: bs, st => by
    rw [List.foldl_cons]
    have h := bfold_len' bs (bstep st b)
    have h2 : (bstep st b).2.2.length ≤ st.2.2.length + 2 := by
      unfold bstep
      split
      · simp
      · split
        · simp
        · simp
    simp only [List.length_cons]
    (first | lia | omega)
theorem bfold_len (bs : List Int) : (bfold bs).2.2.length ≤ 2 * bs.length := by
  have := bfold_len' bs (0, 0, [])
  unfold bfold
  simpa using this
end Mine
end
section
open PySem PySem.W PyProof.Rows
set_option Elab.async false
set_option maxRecDepth 100000
set_option maxHeartbeats 400000
set_option rowWalk.seconds 0
namespace Mine
theorem d2i_inner {w : World} {p : Program} {loose : List Str} {mean : ExcName → Option Value} {mg mb : Str → Option Value} {n : Nat} {tn tq : Tok} {ns : List Int} {vs : List Value} {f cD cN cI l c' : Addr} {ep : Nat}
    {doc pm ctv : Value} {oD oN oI oc : Obj} {cvs : Array Value} {qual : Str}
    (hI : IntsAre vs ns) (hn : n ≤ 200) (hlen : ns.length ≤ 100) (hsz : ∀ x ∈ ns, 0 ≤ x ∧ x < 2 ^ n)
    (hD : oD.data = .cell (some (.ref l))) (hN : oN.data = .cell (some (.int n tn))) (hC : oI.data = .cell (some (.ref f))) (hoc : oc.data = .fields cvs) (hq : cvs[1]? = some (.str qual tq)) :
    ∀ (k : Nat) {dp un : Nat} {gd : Option (List Code)} {cn : Str} {cs : Scope} {a : Addr} {ccd : Value} {cl : List (Str × Addr)} {outer : List Env} {A₀ : Around} {base h₀ : Heap} {L : Addr} {m : Str → Option Value} {s : Shared} {Q E : Value → Shared → Prop}
      {news : List (Addr × Obj)} {i j : Int} {ti tj : Tok},
      j - i ≤ k → i < j → 0 ≤ i → j ≤ ns.length →
      Below A₀ base outer h₀ → Fr h₀ L s.heap m → (hd47.heap_39 w.params).In h₀ → News h₀ L s.heap news → Top p loose mean mg mb h₀ → cs.kind = .function →
      (f, fnMade (Str.ofString "inner") qual (argsS d2iIn) (bodyS d2iIn) (scopeS d2iIn) [(Str.ofString "n", cN), (Str.ofString "inner", cI), (Str.ofString "digits", cD)] doc pm c' ctv) ∈ news →
      (cD, oD) ∈ news → (cN, oN) ∈ news → (cI, oI) ∈ news → (c', oc) ∈ news → (l, listOf vs.toArray ep) ∈ news →
      dp + k < recursionLimit → un + 8 * k < cLine →
      (∀ t h' tk', Fr h₀ L h' m → News h₀ L h' news → Q (.int (valD n (part ns i j)) t) { s with heap := h', toks := tk' }) →
      wpAny (model PySem.Challenge.rw_of0047_01.row.prog w) (ktrTop dp un gd cn cs L a ccd cl outer) (call (.ref f) [.int i ti, .int j tj]) Q E s := by
  have e1 : bodyS d2iIn = bodyS d2iIn := rfl
  conv at e1 => rhs; whnf
  have e2 : scopeS d2iIn = scopeS d2iIn := rfl
  conv at e2 => rhs; whnf
  have e3 : argsS d2iIn = argsS d2iIn := rfl
  conv at e3 => rhs; whnf
  rw [e1, e2, e3]
  clear e1 e2 e3
  intro k
  induction k with
  | zero => intros; exfalso; (first | lia | omega)
  | succ k ih =>
    intro dp un gd cn cs a ccd cl outer A₀ base h₀ L m s Q E news i j ti tj hk hij hi0 hj B F X N T hcs mF mD mN mI mC mL hdp hun hret
    have hmid := half_facts i j
    have hcond : j ≠ i + 1 → 0 ≤ ((i + j).fdiv (2 ^ Int.toNat 1) - i) * (n : Int) ∧ (Builtin.Int.intBits (valD n (part ns ((i + j).fdiv (2 ^ Int.toNat 1)) j)) : Int) + ((i + j).fdiv (2 ^ Int.toNat 1) - i) * (n : Int) ≤ 2 ^ 27 := by
      intro hne
      rw [hmid]
      have h1 : i < (i + j) / 2 ∧ (i + j) / 2 < j := by (first | lia | omega)
      refine ⟨Int.mul_nonneg (by (first | lia | omega)) (by (first | lia | omega)), ?_⟩
      have hb := valD_bound n (part ns ((i + j) / 2) j) fun x hx => hsz x (part_mem hx)
      have hl := part_length (xs := ns) (i := (i + j) / 2) (j := j) (by (first | lia | omega)) (by (first | lia | omega)) hj
      rw [hl] at hb
      have h2 := bits_lt hb.1 hb.2
      have h3 : n * (j - (i + j) / 2).toNat ≤ 200 * 100 := Nat.mul_le_mul hn (by (first | lia | omega))
      have h4 : ((i + j) / 2 - i) * (n : Int) ≤ 100 * 200 := Int.mul_le_mul (by (first | lia | omega)) (by (first | lia | omega)) (by (first | lia | omega)) (by (first | lia | omega))
      (first | lia | omega)
    k_fill
    have cH := codeHd_of_K (c := 48) (P := 44) X (by kernel_rfl)
    refine wpAny_call ?_
    k_dflt (refine' code_nest ?k1 ?k2 ?k3 ?k4 ?k5 ?kA ?kF ?kK ?k6 ?k7 ?k8 ?k9 ?kB ?_ ?c2 ?c3 ?c4 ?c5; (case kA => exact rfl); (case kF => exact rfl); (case kK => assumption); (case k1 => k_asm); (case k2 => k_asm); (case k3 => k_asm); (case k4 => k_asm); (case k5 => k_asm); (case k6 => k_mem); (case k7 => exact codeRec_news (by k_asm) (by k_mem) (by assumption) (by assumption)); (case k8 => ktr_room); (case k9 => exact BindsTo.of_eq rfl); (case c5 => decide); (case kB => exact locs rfl); (case c2 => exact rfl); (case c3 => exact rfl); (case c4 => exact rfl); k_whole; intro g' L' h' FG' F' N' B' X' T'; (try dsimp only); (try k_lift B'); (try k_fold))
    w_top on
    w_on
    k_with_none
    k_with "M" => (first | exact List.mem_cons_self | assumption | (refine' List.mem_cons_of_mem _ ?_; k_mem))
    k_with "U" => exact upd_of_updF (by assumption)
    k_with "A" => (first | with_reducible assumption | (refine all_ne_of_lt (by assumption) ?_; omega) | (refine all_ne_upd (by assumption) (by assumption) ?_; omega))
    k_with "binaryOp LShift int int" => (refine lshift_int (by assumption) (by assumption) ?_)
    k_with "ite" => (first | refine ite_pos (by first | assumption | (simp only [beq_iff_eq, bne_iff_ne, decide_eq_true_eq]; (first | lia | omega))) ?_ | refine ite_neg (by first | assumption | (simp only [beq_iff_eq, bne_iff_ne, decide_eq_true_eq]; (first | lia | omega))) ?_)
    by_cases hne : i + 1 = j
    · repeat' (first | (k_unfold; (try dsimp only)) | (k_end; wrow_close) | (walk1; (try dsimp only)) | (dsimp only; walk1) | (leave1; walk_say "STEP leave1"; try dsimp only) | fail "no step")
      subst hne
      have e := part_one (xs := ns) hi0 (by (first | lia | omega))
      rw [e] at hret
      simp only [valD, Int.mul_zero, Int.add_zero] at hret
      exact hret _ _ _ (by assumption) (by assumption)
    · obtain ⟨hs1, hs2⟩ := hcond (by intro h; exact hne (by rw [h]))
      repeat' (first | (k_unfold; (try dsimp only)) | (k_end; wrow_close) | (walk1; (try dsimp only)) | (dsimp only; walk1) | (leave1; walk_say "STEP leave1"; try dsimp only) | fail "no step")
      (try dsimp only [List.nil_append])
      k_dflt (refine' ih ?j1 ?j2 ?j3 ?j4 ?k1 ?k2 ?k3 ?k4 ?k5 ?kK ?m1 ?m2 ?m3 ?m4 ?m5 ?m6 ?kd ?ku ?kR; (case k1 => k_asm); (case k2 => k_asm); (case k3 => k_asm); (case k4 => k_asm); (case k5 => k_asm); (case kK => exact rfl); (case m1 => k_mem); (case m2 => k_mem); (case m3 => k_mem); (case m4 => k_mem); (case m5 => k_mem); (case m6 => k_mem); (case kd => (show dp + 1 + k < recursionLimit); (first | lia | omega)); (case ku => (show un + 3 + 8 * k < cLine); (first | lia | omega)))
      (case j1 => rw [hmid]; (first | lia | omega))
      (case j2 => rw [hmid]; (first | lia | omega))
      (case j3 => rw [hmid]; (first | lia | omega))
      (case j4 => (first | lia | omega))
      intro t9 h9 tk9 F9 N9
      (try dsimp only)
      (try k_fold)
      repeat' (first | (k_unfold; (try dsimp only)) | (k_end; wrow_close) | (walk1; (try dsimp only)) | (dsimp only; walk1) | (leave1; walk_say "STEP leave1"; try dsimp only) | fail "no step")
      (try dsimp only [List.nil_append])
      k_dflt (refine' ih ?j1b ?j2b ?j3b ?j4b ?k1b ?k2b ?k3b ?k4b ?k5b ?kKb ?m1b ?m2b ?m3b ?m4b ?m5b ?m6b ?kdb ?kub ?kRb; (case k1b => k_asm); (case k2b => k_asm); (case k3b => k_asm); (case k4b => k_asm); (case k5b => k_asm); (case kKb => exact rfl); (case m1b => k_mem); (case m2b => k_mem); (case m3b => k_mem); (case m4b => k_mem); (case m5b => k_mem); (case m6b => k_mem); (case kdb => (show dp + 1 + k < recursionLimit); (first | lia | omega)); (case kub => (show un + 3 + 8 * k < cLine); (first | lia | omega)))
      (case j1b => rw [hmid]; (first | lia | omega))
      (case j2b => rw [hmid]; (first | lia | omega))
      (case j3b => (first | lia | omega))
      (case j4b => rw [hmid]; (first | lia | omega))
      intro t8 h8 tk8 F8 N8
      (try dsimp only)
      (try k_fold)
      repeat' (first | (k_unfold; (try dsimp only)) | (k_end; wrow_close) | (walk1; (try dsimp only)) | (dsimp only; walk1) | (leave1; walk_say "STEP leave1"; try dsimp only) | fail "no step")
      have e := valD_split (n := n) (ns := ns) (i := i) (k := (i + j).fdiv (2 ^ Int.toNat 1)) (j := j) hi0 (by rw [hmid]; (first | lia | omega)) (by rw [hmid]; (first | lia | omega)) hj
      rw [e]
      exact hret _ _ _ (by assumption) (by assumption)
end Mine
end
section
open PySem PySem.W PyProof.Rows
set_option Elab.async false
namespace Mine
noncomputable abbrev inQ (name : String) : Str := (Str.ofString name ++ ".<locals>.") ++ Str.ofString "inner"
inductive TabStep (P : Addr) (li co : Int) (q : Str) (news : List (Addr × Obj)) : List (Addr × Obj) → Prop
  | hit {c' : Addr} {oc : Obj} {cvs : Array Value} {tq : Tok} : (P, tabObj #[rawInt li, rawInt co, .ref c']) ∈ news → (c', oc) ∈ news → oc.data = .fields cvs → cvs[1]? = some (.str q tq) → TabStep P li co q news news
  | miss {g : Obj → List (Addr × Obj)} {c' : Addr} {oc : Obj} {cvs : Array Value} {tq : Tok} : UpdF P (tabObj #[]) news g → (∀ p ∈ news, p.1 < c') → oc.data = .fields cvs → cvs[1]? = some (.str q tq) →
      TabStep P li co q news ((c', oc) :: g (tabObj #[rawInt li, rawInt co, .ref c']))
noncomputable def TabReady (P : Addr) (li co : Int) (q : Str) (news : List (Addr × Obj)) : Prop :=
  (∃ g, UpdF P (tabObj #[]) news g) ∨ ∃ c' oc cvs tq, (P, tabObj #[rawInt li, rawInt co, .ref c']) ∈ news ∧ (c', oc) ∈ news ∧ oc.data = .fields cvs ∧ cvs[1]? = some (.str q tq)
noncomputable def TabHit (P : Addr) (li co : Int) (q : Str) (news : List (Addr × Obj)) : Prop :=
  ∃ c' oc cvs tq, (P, tabObj #[rawInt li, rawInt co, .ref c']) ∈ news ∧ (c', oc) ∈ news ∧ oc.data = .fields cvs ∧ cvs[1]? = some (.str q tq)
theorem TabHit.ready {P : Addr} {li co : Int} {q : Str} {news : List (Addr × Obj)} (h : TabHit P li co q news) : TabReady P li co q news := .inr h
theorem TabHit.mono {P : Addr} {li co : Int} {q : Str} {news news' : List (Addr × Obj)} (h : TabHit P li co q news) (hs : ∀ p ∈ news, p ∈ news') : TabHit P li co q news' :=
  let ⟨c', oc, cvs, tq, m1, m2, r⟩ := h; ⟨c', oc, cvs, tq, hs _ m1, hs _ m2, r⟩
theorem updF_mem {P : Addr} {o : Obj} {news : List (Addr × Obj)} {g : Obj → List (Addr × Obj)} (U : UpdF P o news g) : (P, o) ∈ news := by
  obtain ⟨a, b, rfl, _⟩ := U.split
  simp
theorem updF_self {P : Addr} {o o' : Obj} {news : List (Addr × Obj)} {g : Obj → List (Addr × Obj)} (U : UpdF P o news g) : (P, o') ∈ g o' := by
  obtain ⟨a, b, _, h, _⟩ := U.split
  rw [h]; simp
theorem updF_keeps {P : Addr} {o o' : Obj} {news : List (Addr × Obj)} {g : Obj → List (Addr × Obj)} (U : UpdF P o news g) {p : Addr × Obj} (hp : p ∈ news) (hne : p.1 ≠ P) : p ∈ g o' := by
  obtain ⟨a, b, rfl, h, _⟩ := U.split
  rw [h]
  simp only [List.mem_append, List.mem_cons] at hp ⊢
  rcases hp with hp | hp | hp
  · exact .inl hp
  · subst hp; exact absurd rfl hne
  · exact .inr (.inr hp)
theorem updF_lt {P : Addr} {b : Nat} {o o' : Obj} {news : List (Addr × Obj)} {g : Obj → List (Addr × Obj)} (U : UpdF P o news g) (hl : ∀ p ∈ news, p.1 < b) : ∀ p ∈ g o', p.1 < b := by
  obtain ⟨a, c, rfl, h, _⟩ := U.split
  rw [h]
  intro p hp
  simp only [List.mem_append, List.mem_cons] at hp
  rcases hp with hp | hp | hp
  · exact hl p (List.mem_append_left _ hp)
  · subst hp; exact hl (P, o) (by simp)
  · exact hl p (List.mem_append_right _ (.tail _ hp))
theorem all_ne_of_lt {l : List (Addr × Obj)} {b d : Nat} (h : ∀ p ∈ l, p.1 < b) (hb : b ≤ d) : ∀ p ∈ l, p.1 ≠ d := fun p hp => Nat.ne_of_lt (Nat.lt_of_lt_of_le (h p hp) hb)
theorem all_ne_upd {P : Addr} {b d : Nat} {o o' : Obj} {news : List (Addr × Obj)} {g : Obj → List (Addr × Obj)} (U : UpdF P o news g) (hl : ∀ p ∈ news, p.1 < b) (hb : b ≤ d) : ∀ p ∈ g o', p.1 ≠ d := all_ne_of_lt (updF_lt U hl) hb
theorem news_ne {h₀ h : Heap} {L a b : Addr} {o o' : Obj} {news : List (Addr × Obj)} (N : News h₀ L h news) (ha : (a, o) ∈ news) (hb : (b, o') ∈ news) (hne : o ≠ o') : a ≠ b := fun q => by
  subst q
  have e := (N _ ha).1
  rw [(N _ hb).1] at e
  exact hne (Option.some.inj e).symm
theorem TabHit.inv {P : Addr} {li co : Int} {q : Str} {news news' : List (Addr × Obj)} {h₀ h : Heap} {L : Addr} (H : TabHit P li co q news) (N : News h₀ L h news) (st : TabStep P li co q news news') : news' = news := by
  cases st with
  | hit => rfl
  | miss U =>
    obtain ⟨c', oc, cvs, tq, m1, _⟩ := H
    have e := (N _ m1).1
    rw [(N _ (updF_mem U)).1] at e
    simp [tabObj] at e
end Mine
end
section
open PySem PySem.W PyProof.Rows
set_option Elab.async false
namespace Mine
section
variable {prog : Program} {w : World} {A : Around} {E : Value → Shared → Prop} {s : Shared} {h₀ : Heap} {L l : Addr} {news : List (Addr × Obj)} {vs : List Value} {ns : List Int} {ep : Nat}
theorem m_isList (N : News h₀ L s.heap news) (hm : (l, listOf vs.toArray ep) ∈ news) : s.heap.IsList l vs.toArray := ⟨_, (N _ hm).1, rfl, ep, rfl⟩
theorem m_truthy {Q : Bool → Shared → Prop} (N : News h₀ L s.heap news) (hm : (l, listOf vs.toArray ep) ∈ news) (hI : IntsAre vs ns) (hl : ns.length ≤ 1000000)
    (h : ∀ tk, Q (!ns.isEmpty) { s with toks := tk }) : wpAny (model prog w) A (truthy (.ref l)) Q E s := by
  have e := IntsAre.length hI
  refine wpAny_truthy_list (m_isList N hm) (by rw [List.size_toArray, e]; (first | lia | omega)) ?_
  have e2 : vs.toArray.isEmpty = ns.isEmpty := by
    rw [List.isEmpty_toArray]
    cases hI <;> rfl
  rw [e2]
  exact h _
theorem m_len {Q : Value → Shared → Prop} (N : News h₀ L s.heap news) (hm : (l, listOf vs.toArray ep) ∈ news) (hI : IntsAre vs ns) (hl : ns.length ≤ 1000000)
    (h : ∀ t tk, Q (.int ns.length t) { s with toks := tk }) : wpAny (model prog w) A (call (.builtin "len") [.ref l]) Q E s := by
  have e := IntsAre.length hI
  refine len_list (m_isList N hm) (by rw [List.size_toArray, e]; (first | lia | omega)) ?_
  rw [List.size_toArray, e]
  exact h _ _
theorem m_zeros {m : Str → Option Value} {t u : Tok} {x : Int} {k : Nat} {Q : Value → Shared → Prop} (F : Fr h₀ L s.heap m) (N : News h₀ L s.heap news) (hm : (l, listOf [Value.int 0 t].toArray ep) ∈ news) (hx : x = (k : Int)) (hk : k ≤ 1000)
    (h : ∀ D h' vs', IntsAre vs' (List.replicate k 0) → (∀ p ∈ news, p.1 < D) → Fr h₀ L h' m → News h₀ L h' ((D, listOf vs'.toArray 0) :: news) → Q (.ref D) { s with heap := h' }) :
    wpAny (model prog w) A (binaryOp .Mult (.ref l) (.int x u)) Q E s := by
  subst hx
  refine KM.mul F N (m_isList N hm) (.cons 0 t .nil) (by (first | lia | omega)) (by (first | lia | omega)) (by simp; (first | lia | omega)) fun D h' F' N' l1 i1 n1 _ _ _ _ => ?_
  refine h D h' _ ?_ l1 F' N'
  have e : (List.replicate ((k : Int)).toNat [(0 : Int)]).flatten = List.replicate k 0 := by rw [Int.toNat_natCast, lm_rep_flat_one]
  rw [← e]
  exact i1
theorem m_append {m : Str → Option Value} {x : Value} {news' : List (Addr × Obj)} {Q : Value → Shared → Prop} (F : Fr h₀ L s.heap m) (N : News h₀ L s.heap news) (U : Upd l (listOf vs.toArray ep) (listOf (vs ++ [x]).toArray (ep + 1)) news news') (hz : vs.length ≤ 1000)
    (h : ∀ h', Fr h₀ L h' m → News h₀ L h' news' → Q .none { s with heap := h' }) : wpAny (model prog w) A (call (.builtin "list.append") [.ref l, x]) Q E s := by
  refine append_K (its := vs.toArray) (n := ep) F N (news' := news') ?_ h (by rw [List.size_toArray, sizeLine_eq]; (first | lia | omega))
  rw [List.push_toArray]
  exact U
theorem ints_snoc {x : Int} {t : Tok} (hI : IntsAre vs ns) : IntsAre (vs ++ [Value.int x t]) (ns ++ [x]) := IntsAre.append hI (.cons x t .nil)
end
theorem fr_top {h₀ h : Heap} {L : Addr} {m M : Str → Option Value} {x : Str} {v : Option Value} (e : M = m) (F : Fr h₀ L h fun y => if y = x then v else m y) : Fr h₀ L h fun y => if y = x then v else M y := e ▸ F
theorem chain_cons {m : Str → Option Value} {x : Str} {v : Option Value} (h : m x = v) : m = fun y => if y = x then v else m y := by
  funext y
  split
  · subst y; exact h
  · rfl
theorem toks_gen {M : Model} {A : Around} {α : Type} {c : Sem α} {Q : α → Shared → Prop} {E : Value → Shared → Prop} {h : Heap} {g : Array GenState} {d : Drawn} {t : Nat} {o : OsState} (k : ∀ t, wpAny M A c Q E ⟨h, g, d, t, o⟩) : wpAny M A c Q E ⟨h, g, d, t, o⟩ := k t
end Mine
end
section
open PySem PySem.W PyProof.Rows
set_option Elab.async false
set_option maxRecDepth 100000
set_option maxHeartbeats 400000
set_option rowWalk.seconds 0
namespace Mine
theorem upd_of_updF {d : Addr} {o o' : Obj} : ∀ {l : List (Addr × Obj)} {g : Obj → List (Addr × Obj)}, UpdF d o l g → Upd d o o' l (g o')
  | _, _, .head h => .head h
  | _, _, .tail h r => .tail h (upd_of_updF r)
theorem updF_again {d : Addr} {o : Obj} : ∀ {l : List (Addr × Obj)} {g : Obj → List (Addr × Obj)}, UpdF d o l g → ∀ o', UpdF d o' (g o') g
  | _, _, .head h, _ => .head h
  | _, _, .tail h r, _ => .tail h (updF_again r _)
theorem updF_at {d : Addr} {o : Obj} : ∀ {l : List (Addr × Obj)} {g : Obj → List (Addr × Obj)}, UpdF d o l g → g o = l
  | _, _, .head _ => rfl
  | _, _, .tail _ r => congrArg _ (updF_at r)
theorem openU {h₀ h : Heap} {L d : Addr} {o : Obj} {l : List (Addr × Obj)} {P : Prop} (N : News h₀ L h l) (U : ∃ g, UpdF d o l g)
    (k : ∀ g, UpdF d o l g → News h₀ L h (g o) → (∀ o, UpdF d o (g o) g) → P) : P := by
  obtain ⟨g, U⟩ := U
  exact k g U (by rw [updF_at U]; exact N) (updF_again U)
end Mine
end
open Mine
local macro_rules | `(tactic| k_updF) => `(tactic| assumption)
local macro_rules | `(tactic| k_ne) => `(tactic| assumption)
local macro_rules | `(tactic| k_upd) => `(tactic| k_extra "U")
local macro_rules | `(tactic| k_all) => `(tactic| k_extra "A")
section
open PySem PySem.W PyProof.Rows
set_option Elab.async false
set_option maxRecDepth 100000
set_option maxHeartbeats 400000
set_option rowWalk.seconds 0
namespace Mine
theorem i2d_inner {w : World} {p : Program} {loose : List Str} {mean : ExcName → Option Value} {mg mb : Str → Option Value} {n : Nat} {tn tq : Tok} {f cA cN cI l c' : Addr} {ep : Nat}
    {doc pm ctv : Value} {oA oN oI oc : Obj} {cvs : Array Value} {qual : Str} {g : Obj → List (Addr × Obj)}
    (hn : n ≤ 200)
    (hA : oA.data = .cell (some (.ref l))) (hN : oN.data = .cell (some (.int n tn))) (hC : oI.data = .cell (some (.ref f))) (hoc : oc.data = .fields cvs) (hq : cvs[1]? = some (.str qual tq))
    (GU : ∀ o, UpdF l o (g o) g)
    (mF : ∀ o, (f, fnMade (Str.ofString "inner") qual (argsS i2dIn) (bodyS i2dIn) (scopeS i2dIn) [(Str.ofString "n", cN), (Str.ofString "inner", cI), (Str.ofString "a_digits", cA)] doc pm c' ctv) ∈ g o)
    (mA : ∀ o, (cA, oA) ∈ g o) (mN : ∀ o, (cN, oN) ∈ g o) (mI : ∀ o, (cI, oI) ∈ g o) (mC : ∀ o, (c', oc) ∈ g o) :
    ∀ (k : Nat) {dp un : Nat} {gd : Option (List Code)} {cn : Str} {cs : Scope} {a : Addr} {ccd : Value} {cl : List (Str × Addr)} {outer : List Env} {A₀ : Around} {base h₀ : Heap} {L : Addr} {m : Str → Option Value} {s : Shared} {Q E : Value → Shared → Prop}
      {vs : List Value} {ns : List Int} {x i j : Int} {tx ti tj : Tok},
      j - i ≤ k → i < j → 0 ≤ i → j ≤ ns.length → ns.length ≤ 100 → 0 ≤ x → Builtin.Int.intBits x ≤ 20000 → IntsAre vs ns →
      Below A₀ base outer h₀ → Fr h₀ L s.heap m → (hd47.heap_39 w.params).In h₀ → News h₀ L s.heap (g (listOf vs.toArray ep)) → Top p loose mean mg mb h₀ → cs.kind = .function →
      dp + k < recursionLimit → un + 8 * k < cLine →
      (∀ h' tk' vs', IntsAre vs' (putL ns i.toNat (dg n (j - i).toNat x)) → Fr h₀ L h' m → News h₀ L h' (g (listOf vs'.toArray ep)) → Q .none { s with heap := h', toks := tk' }) →
      wpAny (model PySem.Challenge.rw_of0047_01.row.prog w) (ktrTop dp un gd cn cs L a ccd cl outer) (call (.ref f) [.int x tx, .int i ti, .int j tj]) Q E s := by
  have e1 : bodyS i2dIn = bodyS i2dIn := rfl
  conv at e1 => rhs; whnf
  have e2 : scopeS i2dIn = scopeS i2dIn := rfl
  conv at e2 => rhs; whnf
  have e3 : argsS i2dIn = argsS i2dIn := rfl
  conv at e3 => rhs; whnf
  rw [e1, e2, e3] at mF
  clear e1 e2 e3
  intro k
  induction k with
  | zero => intros; exfalso; (first | lia | omega)
  | succ k ih =>
    intro dp un gd cn cs a ccd cl outer A₀ base h₀ L m s Q E vs ns x i j tx ti tj hk hij hi0 hj hlen hx0 hxb hI B F X N T hcs hdp hun hret
    revert X
    k_fill
    intro X
    have hmid := half_facts i j
    have mF0 := mF (listOf vs.toArray ep)
    have mA0 := mA (listOf vs.toArray ep)
    have mN0 := mN (listOf vs.toArray ep)
    have mI0 := mI (listOf vs.toArray ep)
    have mC0 := mC (listOf vs.toArray ep)
    have U0 := GU (listOf vs.toArray ep)
    have m0 := updF_mem U0
    refine wpAny_call ?_
    k_dflt (refine' code_nest ?k1 ?k2 ?k3 ?k4 ?k5 ?kA ?kF ?kK ?k6 ?k7 ?k8 ?k9 ?kB ?_ ?c2 ?c3 ?c4 ?c5; (case kA => exact rfl); (case kF => exact rfl); (case kK => assumption); (case k1 => k_asm); (case k2 => k_asm); (case k3 => k_asm); (case k4 => k_asm); (case k5 => k_asm); (case k6 => k_mem); (case k7 => exact codeRec_news (by k_asm) (by k_mem) (by assumption) (by assumption)); (case k8 => ktr_room); (case k9 => exact BindsTo.of_eq rfl); (case c5 => decide); (case kB => exact locs rfl); (case c2 => exact rfl); (case c3 => exact rfl); (case c4 => exact rfl); k_whole; intro g' L' h' FG' F' N' B' X' T'; (try dsimp only); (try k_lift B'); (try k_fold))
    have cH := codeHd_of_K (c := 41) (P := 37) X' (by kernel_rfl)
    w_top on
    w_on
    k_with_none
    k_with "M" => (first | exact List.mem_cons_self | assumption | (refine' List.mem_cons_of_mem _ ?_; k_mem))
    k_with "U" => exact upd_of_updF (by assumption)
    k_with "A" => (first | with_reducible assumption | (refine all_ne_of_lt (by assumption) ?_; omega) | (refine all_ne_upd (by assumption) (by assumption) ?_; omega))
    k_with "ite" => (first | refine ite_pos (by first | assumption | (simp only [beq_iff_eq, bne_iff_ne, decide_eq_true_eq]; (first | lia | omega))) ?_ | refine ite_neg (by first | assumption | (simp only [beq_iff_eq, bne_iff_ne, decide_eq_true_eq]; (first | lia | omega))) ?_)
    k_with "binaryOp LShift int int" => (refine lshift_int (by assumption) (by assumption) ?_)
    k_with "binaryOp RShift int int" => (refine rshift_int (by assumption) ?_)
    by_cases hne : i + 1 = j
    · repeat' (first | (k_unfold; (try dsimp only)) | (k_end; wrow_close) | (walk1; (try dsimp only)) | (dsimp only; walk1) | (leave1; walk_say "STEP leave1"; try dsimp only) | fail "no step")
      subst hne
      have e : (i + 1 - i).toNat = 1 := by (first | lia | omega)
      rw [e] at hret
      refine hret _ _ _ ?_ (by assumption) (by assumption)
      show IntsAre _ (putL ns i.toNat [x])
      rw [← putL_one (by (first | lia | omega))]
      assumption
    · have hmb : i < (i + j).fdiv (2 ^ Int.toNat 1) ∧ (i + j).fdiv (2 ^ Int.toNat 1) < j := by rw [hmid]; (first | lia | omega)
      have hs1 : 0 ≤ ((i + j).fdiv (2 ^ Int.toNat 1) - i) * (n : Int) := Int.mul_nonneg (by (first | lia | omega)) (by (first | lia | omega))
      have hsb : ((i + j).fdiv (2 ^ Int.toNat 1) - i) * (n : Int) ≤ 100 * 200 := Int.mul_le_mul (by (first | lia | omega)) (by (first | lia | omega)) (by (first | lia | omega)) (by (first | lia | omega))
      have hup := high_facts x (((i + j).fdiv (2 ^ Int.toNat 1) - i) * (n : Int)).toNat
      have hlow := low_facts hx0 (((i + j).fdiv (2 ^ Int.toNat 1) - i) * (n : Int)).toNat
      have hu := div_le hx0 (((i + j).fdiv (2 ^ Int.toNat 1) - i) * (n : Int)).toNat
      have hl := mod_le hx0 (((i + j).fdiv (2 ^ Int.toNat 1) - i) * (n : Int)).toNat
      rw [← hup] at hu
      rw [← hlow] at hl
      have hub := bits_mono hu.1 hu.2 hxb
      have hlb := bits_mono hl.1 hl.2 hxb
      have hs2 : (Builtin.Int.intBits (x.fdiv (2 ^ (((i + j).fdiv (2 ^ Int.toNat 1) - i) * (n : Int)).toNat)) : Int) + ((i + j).fdiv (2 ^ Int.toNat 1) - i) * (n : Int) ≤ 2 ^ 27 := by (first | lia | omega)
      repeat' (first | (k_unfold; (try dsimp only)) | (k_end; wrow_close) | (walk1; (try dsimp only)) | (dsimp only; walk1) | (leave1; walk_say "STEP leave1"; try dsimp only) | fail "no step")
      (try dsimp only [List.nil_append])
      k_dflt (refine' ih ?j1a ?j2a ?j3a ?j4a ?j5a ?j6a ?j7a ?j8a ?k1a ?k2a ?k3a ?k4a ?k5a ?kKa ?kda ?kua ?kRa; (case k1a => k_asm); (case k2a => k_asm); (case k3a => k_asm); (case k4a => k_asm); (case k5a => k_asm); (case kKa => exact rfl); (case j8a => assumption); (case kda => (show dp + 1 + k < recursionLimit); (first | lia | omega)); (case kua => (show un + 3 + 8 * k < cLine); (first | lia | omega)))
      (case j1a => (first | lia | omega))
      (case j2a => (first | lia | omega))
      (case j3a => (first | lia | omega))
      (case j4a => (first | lia | omega))
      (case j5a => (first | lia | omega))
      (case j6a => exact hl.1)
      (case j7a => exact hlb)
      intro h9 tk9 vs9 hI9 F9 N9
      (try dsimp only)
      (try k_fold)
      have mF1 := mF (listOf vs9.toArray ep)
      have mA1 := mA (listOf vs9.toArray ep)
      have mN1 := mN (listOf vs9.toArray ep)
      have mI1 := mI (listOf vs9.toArray ep)
      have mC1 := mC (listOf vs9.toArray ep)
      have hl9 := putL_length (ns := ns) (i := i.toNat) (ds := dg n ((i + j).fdiv (2 ^ Int.toNat 1) - i).toNat (Builtin.bitXor x (x.fdiv (2 ^ (((i + j).fdiv (2 ^ Int.toNat 1) - i) * (n : Int)).toNat) * 2 ^ (((i + j).fdiv (2 ^ Int.toNat 1) - i) * (n : Int)).toNat))) (by rw [dg_length]; (first | lia | omega))
      repeat' (first | (k_unfold; (try dsimp only)) | (k_end; wrow_close) | (walk1; (try dsimp only)) | (dsimp only; walk1) | (leave1; walk_say "STEP leave1"; try dsimp only) | fail "no step")
      (try dsimp only [List.nil_append])
      k_dflt (refine' ih ?j1b ?j2b ?j3b ?j4b ?j5b ?j6b ?j7b ?j8b ?k1b ?k2b ?k3b ?k4b ?k5b ?kKb ?kdb ?kub ?kRb; (case k1b => k_asm); (case k2b => k_asm); (case k3b => k_asm); (case k4b => k_asm); (case k5b => k_asm); (case kKb => exact rfl); (case j8b => assumption); (case kdb => (show dp + 1 + k < recursionLimit); (first | lia | omega)); (case kub => (show un + 3 + 8 * k < cLine); (first | lia | omega)))
      (case j1b => (first | lia | omega))
      (case j2b => (first | lia | omega))
      (case j3b => (first | lia | omega))
      (case j4b => rw [hl9]; (first | lia | omega))
      (case j5b => rw [hl9]; (first | lia | omega))
      (case j6b => exact hu.1)
      (case j7b => exact hub)
      intro h8 tk8 vs8 hI8 F8 N8
      (try dsimp only)
      (try k_fold)
      repeat' (first | (k_unfold; (try dsimp only)) | (k_end; wrow_close) | (walk1; (try dsimp only)) | (dsimp only; walk1) | (leave1; walk_say "STEP leave1"; try dsimp only) | fail "no step")
      refine hret _ _ _ ?_ (by assumption) (by assumption)
      rw [hlow, hup, put_halves hi0 hmb.1 hmb.2 hj] at hI8
      exact hI8
end Mine
end
section
open PySem PySem.W PyProof.Rows
set_option Elab.async false
set_option maxRecDepth 100000
set_option maxHeartbeats 4000000
set_option rowWalk.seconds 0
namespace Mine

theorem lt_of_allLt {d : Nat} {l : List (Addr × Obj)} (h : AllLt d l) : ∀ p ∈ l, p.1 < d := by
  induction l with
  | nil => intro p hp; cases hp
  | cons q r ih =>
    intro p hp
    rcases List.mem_cons.mp hp with e | e
    · rw [e]; exact h.1
    · exact ih h.2 p e
theorem put_zeros (n k : Nat) (x : Int) : putL (List.replicate k 0) (0 : Int).toNat (dg n (((k : Nat) : Int) - 0).toNat x) = dg n k x := by
  have e : (((k : Nat) : Int) - 0).toNat = k := by (first | lia | omega)
  rw [e]
  exact putL_all (by rw [dg_length, List.length_replicate])
theorem cnt_zero {n : Nat} (hn : 1 ≤ n) : cnt n 0 = 0 := by
  unfold cnt
  have h : Builtin.Int.intBits 0 = 0 := rfl
  rw [h]
  exact Nat.div_eq_of_lt (by (first | lia | omega))
theorem i2d_call {w : World} {p : Program} {loose : List Str} {mean : ExcName → Option Value} {mg mb : Str → Option Value} {n : Nat} {x : Int} {tx tn : Tok}
    (hn1 : 1 ≤ n) (hn : n ≤ 200) (hx0 : 0 ≤ x) (hxb : Builtin.Int.intBits x ≤ 2000) (hlen : cnt n x ≤ 100)
    {dp un : Nat} {gd : Option (List Code)} {cn : Str} {cs : Scope} {a : Addr} {ccd : Value} {cl : List (Str × Addr)} {outer : List Env} {A₀ : Around} {base h₀ : Heap} {L : Addr} {m : Str → Option Value} {s : Shared} {Q E : Value → Shared → Prop}
    {news : List (Addr × Obj)}
    (B : Below A₀ base outer h₀) (F : Fr h₀ L s.heap m) (X : (hd47.heap_39 w.params).In h₀) (N : News h₀ L s.heap news) (T : Top p loose mean mg mb h₀) (hcs : cs.kind = .function)
    (hR : TabReady 37 35 4 (inQ "_int2digits") news)
    (hdp : dp + 110 < recursionLimit) (hun : un + 900 < cLine)
    (hret : ∀ l ep vs' h' tk' news', TabStep 37 35 4 (inQ "_int2digits") news news' → IntsAre vs' (dg n (cnt n x) x) → (∀ p ∈ news, p.1 < l) → Fr h₀ L h' m → News h₀ L h' ((l, listOf vs'.toArray ep) :: news') → Q (.ref l) { s with heap := h', toks := tk' }) :
    wpAny (model PySem.Challenge.rw_of0047_01.row.prog w) (ktrTop dp un gd cn cs L a ccd cl outer) (call (.ref 42) [.int x tx, .int n tn]) Q E s := by
  revert X
  k_fill
  intro X
  refine wpAny_call ?_
  k_dflt (refine' code_defC ?k1 ?k2 ?k3 ?k4 ?k5 ?kA ?kF ?kK ?k6 ?k7 ?k8 ?k9 ?kB ?kD ?_ ?c2 ?c3 ?c4; (case kA => exact rfl); (case kF => exact rfl); (case kK => assumption); (case k1 => k_asm); (case k2 => k_asm); (case k3 => k_asm); (case k4 => k_asm); (case k5 => k_asm); (case k6 => k_is); (case k7 => k_is); (case k8 => ktr_room); (case k9 => exact BindsTo.of_eq rfl); (case kB => exact rfl); (case kD => decide +kernel); (case c2 => exact rfl); (case c3 => exact rfl); (case c4 => exact rfl); k_whole; intro g' L' h' tk' cells' FG' F' N' Y' B' X' T' l1; k_cells Y'; (try simp only [List.cons_append, List.nil_append] at N'); (try dsimp only); (try k_lift B'); (try k_fold))
  have cH' := codeHd_of_K (c := 41) (P := 37) X' (by kernel_rfl)
  have hcnt : (((Builtin.Int.intBits x : Nat) : Int) + (n : Int) - 1).fdiv (n : Int) = ((cnt n x : Nat) : Int) := by
    rw [Int.fdiv_eq_ediv_of_nonneg _ (by (first | lia | omega)), show (((Builtin.Int.intBits x : Nat) : Int) + (n : Int) - 1) = ((Builtin.Int.intBits x + n - 1 : Nat) : Int) by (first | lia | omega)]
    exact (Int.natCast_ediv _ _).symm
  w_top on
  w_on
  k_with_none
  k_with "M" => (first | exact List.mem_cons_self | assumption | (refine' List.mem_cons_of_mem _ ?_; k_mem))
  k_with "U" => exact upd_of_updF (by assumption)
  k_with "A" => (first | with_reducible assumption | (refine all_ne_of_lt (by assumption) ?_; omega) | (refine all_ne_upd (by assumption) (by assumption) ?_; omega))
  k_with "ite" => (first | refine ite_pos (by first | assumption | (simp only [beq_iff_eq, bne_iff_ne, decide_eq_true_eq]; (first | lia | omega))) ?_ | refine ite_neg (by first | assumption | (simp only [beq_iff_eq, bne_iff_ne, decide_eq_true_eq]; (first | lia | omega))) ?_)
  k_with "truthy ref" => (k_dflt (refine m_truthy (by assumption) (by k_mem) (by assumption) (by (first | lia | omega)) ?_); intro _)
  k_with "call builtin:len" => (k_dflt (refine m_len (by assumption) (by k_mem) (by assumption) (by (first | lia | omega)) ?_); intro _ _)
  k_with "binaryOp Mult ref int" => (k_dflt (refine m_zeros (by k_asm) (by k_asm) (by k_mem) (by assumption) (by (first | lia | omega)) ?_); intro _ _ _ _ l9 _ _; (try k_lt l9); (try (revert l9; intro _)))
  have hrl : (List.replicate (cnt n x) (0 : Int)).length = cnt n x := List.length_replicate
  iterate 23 walk1
  rename_i D9 h9 vs9 hI9 F9 N9 l9
  iterate 2 walk1
  by_cases hx : x = 0
  · have hI9' : IntsAre vs9 (dg n (cnt n x) x) := by
      rw [hx, cnt_zero hn1] at hI9 ⊢
      exact hI9
    rcases hR with ⟨g, U⟩ | ⟨c', oc, cvs, tq, m1, m2, hd1, hd2⟩
    · have h37 : @LT.lt Nat _ 37 L' := l1 _ (updF_mem U)
      k_dflt (refine' nestDef_K ?d0x ?k0x ?a0x ?_; (case d0x => exact rfl); (case k0x => exact rfl); (case a0x => exact rfl))
      k_dflt (refine' nest_K ?Fx ?Nx ?Tx ?Cx ?cdx ?Ux ?tx ?nx ?clx ?_; (case Fx => k_asm); (case Nx => k_asm); (case Tx => k_asm); (case cdx => exact rfl); (case Cx => kn_code); (case Ux => k_updF); (case tx => kn_triples); (case nx => kn_among); (case clx => exact rfl); k_whole)
      intro f' c' oc' cvs' tq' ct' dc' h2 tk2 F2 N2 hd1 hd2 l2 l3
      have l2' : ∀ p ∈ news, p.1 < c' := fun p hp => l2 p (by simp [hp])
      k_lt l2
      k_lt2 l3
      have hlt := updF_lt (o' := tabObj (#[] ++ #[rawInt ((35 : Nat) : Int), rawInt ((4 : Nat) : Int), .ref c'])) U l1
      have hst : TabStep 37 35 4 (inQ "_int2digits") news ((c', oc') :: g (tabObj (#[] ++ #[rawInt ((35 : Nat) : Int), rawInt ((4 : Nat) : Int), .ref c']))) := TabStep.miss U l2' hd1 hd2
      generalize hg : g (tabObj (#[] ++ #[rawInt ((35 : Nat) : Int), rawInt ((4 : Nat) : Int), .ref c'])) = news2 at *
      (try dsimp only at N2)
      repeat' (first | (k_unfold; (try dsimp only)) | (k_end; wrow_close) | (walk1; (try dsimp only)) | (dsimp only; walk1) | (leave1; walk_say "STEP leave1"; try dsimp only) | fail "no step")
      have l9' : ∀ p ∈ news, p.1 < D9 := lt_of_allLt l9.2.2.2.2
      refine hret D9 0 vs9 _ _ _ hst hI9' l9' (by assumption) (cb_drop (by assumption) ?_)
      intro q hq
      rcases List.mem_cons.mp hq with rfl | hq
      · k_mem
      · rcases List.mem_cons.mp hq with rfl | hq
        · k_mem
        · k_mem
    · have h37 : @LT.lt Nat _ 37 L' := l1 _ m1
      have hcD : @LT.lt Nat _ c' D9 := lt_of_allLt l9.2.2.2.2 _ m2
      repeat' (first | (k_unfold; (try dsimp only)) | (k_end; wrow_close) | (walk1; (try dsimp only)) | (dsimp only; walk1) | (leave1; walk_say "STEP leave1"; try dsimp only) | fail "no step")
      have l9' : ∀ p ∈ news, p.1 < D9 := lt_of_allLt l9.2.2.2.2
      refine hret D9 0 vs9 _ _ _ (TabStep.hit m1 m2 hd1 hd2) hI9' l9' (by assumption) (cb_drop (by assumption) ?_)
      intro q hq
      rcases List.mem_cons.mp hq with rfl | hq
      · k_mem
      · k_mem
  have hpos : 0 < cnt n x := cnt_pos hn1 hx
  rcases hR with ⟨g, U⟩ | ⟨c', oc, cvs, tq, m1, m2, hd1, hd2⟩
  · have h37 : @LT.lt Nat _ 37 L' := l1 _ (updF_mem U)
    k_dflt (refine' nestDef_K ?d0 ?k0 ?a0 ?_; (case d0 => exact rfl); (case k0 => exact rfl); (case a0 => exact rfl))
    k_dflt (refine' nest_K ?F ?N ?T ?C ?cd ?U ?t ?n ?cl ?_; (case F => k_asm); (case N => k_asm); (case T => k_asm); (case cd => exact rfl); (case C => kn_code); (case U => k_updF); (case t => kn_triples); (case n => kn_among); (case cl => exact rfl); k_whole)
    intro f' c' oc' cvs' tq' ct' dc' h2 tk2 F2 N2 hd1 hd2 l2 l3
    have l2' : ∀ p ∈ news, p.1 < c' := fun p hp => l2 p (by simp [hp])
    k_lt l2
    k_lt2 l3
    have hlt := updF_lt (o' := tabObj (#[] ++ #[rawInt ((35 : Nat) : Int), rawInt ((4 : Nat) : Int), .ref c'])) U l1
    have hst : TabStep 37 35 4 (inQ "_int2digits") news ((c', oc') :: g (tabObj (#[] ++ #[rawInt ((35 : Nat) : Int), rawInt ((4 : Nat) : Int), .ref c']))) := TabStep.miss U l2' hd1 hd2
    generalize hg : g (tabObj (#[] ++ #[rawInt ((35 : Nat) : Int), rawInt ((4 : Nat) : Int), .ref c'])) = news2 at *
    (try dsimp only at N2)
    repeat' (first | (k_unfold; (try dsimp only)) | (k_end; wrow_close) | (walk1; (try dsimp only)) | (dsimp only; walk1) | (leave1; walk_say "STEP leave1"; try dsimp only) | fail "no step")
    (try dsimp only [List.nil_append])
    (with_reducible rename News _ _ _ _ => NN)
    refine openU NN (d := D9) (o := listOf vs9.toArray 0) ⟨_, by k_updF⟩ ?_
    intro g9 U9 N9 GU9
    have mA9 : ∀ o, (L' + 1 + 1, _) ∈ g9 o := fun o => updF_keeps U9 (by k_mem) (by k_ne)
    k_dflt (refine' i2d_inner (w := w) (p := p) (loose := loose) (mean := mean) (mg := mg) (mb := mb) (g := g9) (ep := 0) (l := D9) hn ?hAa ?hNa ?hCa ?hoca ?hqa GU9 ?mFa ?mAa ?mNa ?mIa ?mCa (cnt n x) ?j1a ?j2a ?j3a ?j4a ?j5a hx0 ?j7a hI9 ?k1a ?k2a ?k3a ?k4a ?k5a ?kKa ?kda ?kua ?kRa; (case k1a => k_asm); (case k2a => k_asm); (case k3a => k_asm); (case k4a => exact N9); (case k5a => k_asm); (case kKa => exact rfl); (case mFa => exact fun o => updF_keeps U9 (by k_mem) (by k_ne)); (case mAa => exact fun o => updF_keeps U9 (by k_mem) (by k_ne)); (case mNa => exact fun o => updF_keeps U9 (by k_mem) (by k_ne)); (case mIa => exact fun o => updF_keeps U9 (by k_mem) (by k_ne)); (case mCa => exact fun o => updF_keeps U9 (by k_mem) (by k_ne)); (case hAa => k_asm); (case hNa => k_asm); (case hCa => k_asm); (case hoca => k_asm); (case hqa => k_asm); (case kda => (show dp + 1 + cnt n x < recursionLimit); (first | lia | omega)); (case kua => (show un + 3 + 8 * cnt n x < cLine); (first | lia | omega)); (case j1a => (first | lia | omega)); (case j2a => (first | lia | omega)); (case j3a => (first | lia | omega)); (case j4a => (first | lia | omega)); (case j5a => (first | lia | omega)); (case j7a => (first | lia | omega)))
    intro h8 tk8 vs8 hI8 F8 N8
    have m8 := mA9 (listOf vs8.toArray 0)
    have l9' : ∀ p ∈ news, p.1 < D9 := lt_of_allLt l9.2.2.2.2
    rw [hrl, put_zeros] at hI8
    (try dsimp only)
    (try k_fold)
    repeat' (first | (k_unfold; (try dsimp only)) | (k_end; wrow_close) | (walk1; (try dsimp only)) | (dsimp only; walk1) | (leave1; walk_say "STEP leave1"; try dsimp only) | fail "no step")
    refine hret D9 0 vs8 _ _ _ hst hI8 l9' (by assumption) (cb_drop (by assumption) ?_)
    intro q hq
    rcases List.mem_cons.mp hq with rfl | hq
    · exact updF_self U9
    · rcases List.mem_cons.mp hq with rfl | hq
      · exact updF_keeps U9 (List.mem_cons_of_mem _ List.mem_cons_self) (by k_ne)
      · exact updF_keeps U9 (List.mem_cons_of_mem _ (List.mem_cons_of_mem _ (List.mem_cons_of_mem _ (List.mem_cons_of_mem _ (List.mem_cons_of_mem _ (List.mem_cons_of_mem _ (List.mem_cons_of_mem _ hq))))))) (all_ne_of_lt hlt (by (first | lia | omega)) q hq)
  · have h37 : @LT.lt Nat _ 37 L' := l1 _ m1
    have hcD : @LT.lt Nat _ c' D9 := lt_of_allLt l9.2.2.2.2 _ m2
    repeat' (first | (k_unfold; (try dsimp only)) | (k_end; wrow_close) | (walk1; (try dsimp only)) | (dsimp only; walk1) | (leave1; walk_say "STEP leave1"; try dsimp only) | fail "no step")
    (try dsimp only [List.nil_append])
    (with_reducible rename News _ _ _ _ => NN)
    refine openU NN (d := D9) (o := listOf vs9.toArray 0) ⟨_, by k_updF⟩ ?_
    intro g9 U9 N9 GU9
    have mA9 : ∀ o, (L' + 1 + 1, _) ∈ g9 o := fun o => updF_keeps U9 (by k_mem) (by k_ne)
    k_dflt (refine' i2d_inner (w := w) (p := p) (loose := loose) (mean := mean) (mg := mg) (mb := mb) (g := g9) (ep := 0) (l := D9) hn ?hAb ?hNb ?hCb ?hocb ?hqb GU9 ?mFb ?mAb ?mNb ?mIb ?mCb (cnt n x) ?j1b ?j2b ?j3b ?j4b ?j5b hx0 ?j7b hI9 ?k1b ?k2b ?k3b ?k4b ?k5b ?kKb ?kdb ?kub ?kRb; (case k1b => k_asm); (case k2b => k_asm); (case k3b => k_asm); (case k4b => exact N9); (case k5b => k_asm); (case kKb => exact rfl); (case mFb => exact fun o => updF_keeps U9 (by k_mem) (by k_ne)); (case mAb => exact fun o => updF_keeps U9 (by k_mem) (by k_ne)); (case mNb => exact fun o => updF_keeps U9 (by k_mem) (by k_ne)); (case mIb => exact fun o => updF_keeps U9 (by k_mem) (by k_ne)); (case mCb => exact fun o => updF_keeps U9 (by k_mem) (by k_ne)); (case hAb => k_asm); (case hNb => k_asm); (case hCb => k_asm); (case hocb => k_asm); (case hqb => k_asm); (case kdb => (show dp + 1 + cnt n x < recursionLimit); (first | lia | omega)); (case kub => (show un + 3 + 8 * cnt n x < cLine); (first | lia | omega)); (case j1b => (first | lia | omega)); (case j2b => (first | lia | omega)); (case j3b => (first | lia | omega)); (case j4b => (first | lia | omega)); (case j5b => (first | lia | omega)); (case j7b => (first | lia | omega)))
    intro h8 tk8 vs8 hI8 F8 N8
    have m8 := mA9 (listOf vs8.toArray 0)
    have l9' : ∀ p ∈ news, p.1 < D9 := lt_of_allLt l9.2.2.2.2
    rw [hrl, put_zeros] at hI8
    (try dsimp only)
    (try k_fold)
    repeat' (first | (k_unfold; (try dsimp only)) | (k_end; wrow_close) | (walk1; (try dsimp only)) | (dsimp only; walk1) | (leave1; walk_say "STEP leave1"; try dsimp only) | fail "no step")
    refine hret D9 0 vs8 _ _ _ (TabStep.hit m1 m2 hd1 hd2) hI8 l9' (by assumption) (cb_drop (by assumption) ?_)
    intro q hq
    rcases List.mem_cons.mp hq with rfl | hq
    · exact updF_self U9
    · exact updF_keeps U9 (List.mem_cons_of_mem _ (List.mem_cons_of_mem _ (List.mem_cons_of_mem _ (List.mem_cons_of_mem _ (List.mem_cons_of_mem _ (List.mem_cons_of_mem _ hq)))))) (all_ne_of_lt l9' (Nat.le_refl _) q hq)
end Mine
end
section
open PySem PySem.W PyProof.Rows
set_option Elab.async false
set_option maxRecDepth 100000
set_option maxHeartbeats 400000
set_option rowWalk.seconds 0
namespace Mine

theorem d2i_call {w : World} {p : Program} {loose : List Str} {mean : ExcName → Option Value} {mg mb : Str → Option Value} {n : Nat} {tn : Tok} {ns : List Int} {vs : List Value} {l : Addr} {ep : Nat}
    (hI : IntsAre vs ns) (hns : ns ≠ []) (hn : n ≤ 200) (hlen : ns.length ≤ 100) (hsz : ∀ x ∈ ns, 0 ≤ x ∧ x < 2 ^ n)
    {dp un : Nat} {gd : Option (List Code)} {cn : Str} {cs : Scope} {a : Addr} {ccd : Value} {cl : List (Str × Addr)} {outer : List Env} {A₀ : Around} {base h₀ : Heap} {L : Addr} {m : Str → Option Value} {s : Shared} {Q E : Value → Shared → Prop}
    {news : List (Addr × Obj)}
    (B : Below A₀ base outer h₀) (F : Fr h₀ L s.heap m) (X : (hd47.heap_39 w.params).In h₀) (N : News h₀ L s.heap news) (T : Top p loose mean mg mb h₀) (hcs : cs.kind = .function)
    (hR : TabReady 44 50 4 (inQ "_digits2int") news)
    (mL : (l, listOf vs.toArray ep) ∈ news)
    (hdp : dp + 110 < recursionLimit) (hun : un + 900 < cLine)
    (hret : ∀ t h' tk' news', TabStep 44 50 4 (inQ "_digits2int") news news' → Fr h₀ L h' m → News h₀ L h' news' → Q (.int (valD n ns) t) { s with heap := h', toks := tk' }) :
    wpAny (model PySem.Challenge.rw_of0047_01.row.prog w) (ktrTop dp un gd cn cs L a ccd cl outer) (call (.ref 49) [.ref l, .int n tn]) Q E s := by
  revert X
  k_fill
  intro X
  refine wpAny_call ?_
  k_dflt (refine' code_defC ?k1 ?k2 ?k3 ?k4 ?k5 ?kA ?kF ?kK ?k6 ?k7 ?k8 ?k9 ?kB ?kD ?_ ?c2 ?c3 ?c4; (case kA => exact rfl); (case kF => exact rfl); (case kK => assumption); (case k1 => k_asm); (case k2 => k_asm); (case k3 => k_asm); (case k4 => k_asm); (case k5 => k_asm); (case k6 => k_is); (case k7 => k_is); (case k8 => ktr_room); (case k9 => exact BindsTo.of_eq rfl); (case kB => exact rfl); (case kD => decide +kernel); (case c2 => exact rfl); (case c3 => exact rfl); (case c4 => exact rfl); k_whole; intro g' L' h' tk' cells' FG' F' N' Y' B' X' T' l1; k_cells Y'; (try simp only [List.cons_append, List.nil_append] at N'); (try dsimp only); (try k_lift B'); (try k_fold))
  have cH' := codeHd_of_K (c := 48) (P := 44) X' (by kernel_rfl)
  w_top on
  w_on
  k_with_none
  k_with "M" => (first | exact List.mem_cons_self | assumption | (refine' List.mem_cons_of_mem _ ?_; k_mem))
  k_with "U" => exact upd_of_updF (by assumption)
  k_with "A" => (first | with_reducible assumption | (refine all_ne_of_lt (by assumption) ?_; omega) | (refine all_ne_upd (by assumption) (by assumption) ?_; omega))
  k_with "ite" => (first | refine ite_pos (by first | assumption | (simp only [beq_iff_eq, bne_iff_ne, decide_eq_true_eq]; (first | lia | omega))) ?_ | refine ite_neg (by first | assumption | (simp only [beq_iff_eq, bne_iff_ne, decide_eq_true_eq]; (first | lia | omega))) ?_)
  k_with "truthy ref" => (k_dflt (refine m_truthy (by assumption) (by k_mem) (by assumption) (by (first | lia | omega)) ?_); intro _)
  k_with "call builtin:len" => (k_dflt (refine m_len (by assumption) (by k_mem) (by assumption) (by (first | lia | omega)) ?_); intro _ _)
  rcases hR with ⟨g, U⟩ | ⟨c', oc, cvs, tq, m1, m2, hd1, hd2⟩
  · have h44 : @LT.lt Nat _ 44 L' := l1 _ (updF_mem U)
    walk1
    k_dflt (refine' nestDef_K ?d0 ?k0 ?a0 ?_; (case d0 => exact rfl); (case k0 => exact rfl); (case a0 => exact rfl))
    k_dflt (refine' nest_K ?F ?N ?T ?C ?cd ?U ?t ?n ?cl ?_; (case F => k_asm); (case N => k_asm); (case T => k_asm); (case cd => exact rfl); (case C => kn_code); (case U => k_updF); (case t => kn_triples); (case n => kn_among); (case cl => exact rfl); k_whole)
    intro f' c' oc' cvs' tq' ct' dc' h2 tk2 F2 N2 hd1 hd2 l2 l3
    have l2' : ∀ p ∈ news, p.1 < c' := fun p hp => l2 p (by simp [hp])
    k_lt l2
    k_lt2 l3
    have mL' : (l, listOf vs.toArray ep) ∈ g (tabObj (#[] ++ #[rawInt ((50 : Nat) : Int), rawInt ((4 : Nat) : Int), .ref c'])) := updF_keeps U mL (news_ne N mL (updF_mem U) (by simp))
    have hlt := updF_lt (o' := tabObj (#[] ++ #[rawInt ((50 : Nat) : Int), rawInt ((4 : Nat) : Int), .ref c'])) U l1
    have hst : TabStep 44 50 4 (inQ "_digits2int") news ((c', oc') :: g (tabObj (#[] ++ #[rawInt ((50 : Nat) : Int), rawInt ((4 : Nat) : Int), .ref c']))) := TabStep.miss U l2' hd1 hd2
    generalize hg : g (tabObj (#[] ++ #[rawInt ((50 : Nat) : Int), rawInt ((4 : Nat) : Int), .ref c'])) = news2 at *
    have hpos : 0 < ns.length := List.length_pos_iff.mpr hns
    (try dsimp only at N2)
    repeat' (first | (k_unfold; (try dsimp only)) | (k_end; wrow_close) | (walk1; (try dsimp only)) | (dsimp only; walk1) | (leave1; walk_say "STEP leave1"; try dsimp only) | fail "no step")
    (try dsimp only [List.nil_append])
    k_dflt (refine' d2i_inner (w := w) (p := p) (loose := loose) (mean := mean) (mg := mg) (mb := mb) hI hn hlen hsz ?hDa ?hNa ?hCa ?hoca ?hqa ns.length ?j1a ?j2a ?j3a ?j4a ?k1a ?k2a ?k3a ?k4a ?k5a ?kKa ?m1a ?m2a ?m3a ?m4a ?m5a ?m6a ?kda ?kua ?kRa; (case k1a => k_asm); (case k2a => k_asm); (case k3a => k_asm); (case k4a => k_asm); (case k5a => k_asm); (case kKa => exact rfl); (case m1a => k_mem); (case m2a => k_mem); (case m3a => k_mem); (case m4a => k_mem); (case m5a => k_mem); (case m6a => k_mem); (case hDa => k_asm); (case hNa => k_asm); (case hCa => k_asm); (case hoca => k_asm); (case hqa => k_asm); (case kda => (show dp + 1 + ns.length < recursionLimit); (first | lia | omega)); (case kua => (show un + 3 + 8 * ns.length < cLine); (first | lia | omega)); (case j1a => (first | lia | omega)); (case j2a => (first | lia | omega)); (case j3a => (first | lia | omega)); (case j4a => (first | lia | omega)))
    intro t9 h9 tk9 F9 N9
    rw [part_all]
    (try dsimp only)
    (try k_fold)
    repeat' (first | (k_unfold; (try dsimp only)) | (k_end; wrow_close) | (walk1; (try dsimp only)) | (dsimp only; walk1) | (leave1; walk_say "STEP leave1"; try dsimp only) | fail "no step")
    refine hret _ _ _ _ hst (by assumption) (cb_drop (by assumption) ?_)
    intro q hq
    rcases List.mem_cons.mp hq with rfl | h
    · exact List.mem_cons_of_mem _ List.mem_cons_self
    · exact List.mem_cons_of_mem _ (List.mem_cons_of_mem _ (List.mem_cons_of_mem _ (List.mem_cons_of_mem _ (List.mem_cons_of_mem _ h))))
  · have h44 : @LT.lt Nat _ 44 L' := l1 _ m1
    have hpos : 0 < ns.length := List.length_pos_iff.mpr hns
    repeat' (first | (k_unfold; (try dsimp only)) | (k_end; wrow_close) | (walk1; (try dsimp only)) | (dsimp only; walk1) | (leave1; walk_say "STEP leave1"; try dsimp only) | fail "no step")
    (try dsimp only [List.nil_append])
    k_dflt (refine' d2i_inner (w := w) (p := p) (loose := loose) (mean := mean) (mg := mg) (mb := mb) hI hn hlen hsz ?hDb ?hNb ?hCb ?hocb ?hqb ns.length ?j1b ?j2b ?j3b ?j4b ?k1b ?k2b ?k3b ?k4b ?k5b ?kKb ?m1b ?m2b ?m3b ?m4b ?m5b ?m6b ?kdb ?kub ?kRb; (case k1b => k_asm); (case k2b => k_asm); (case k3b => k_asm); (case k4b => k_asm); (case k5b => k_asm); (case kKb => exact rfl); (case m1b => k_mem); (case m2b => k_mem); (case m3b => k_mem); (case m4b => k_mem); (case m5b => k_mem); (case m6b => k_mem); (case hDb => k_asm); (case hNb => k_asm); (case hCb => k_asm); (case hocb => k_asm); (case hqb => k_asm); (case kdb => (show dp + 1 + ns.length < recursionLimit); (first | lia | omega)); (case kub => (show un + 3 + 8 * ns.length < cLine); (first | lia | omega)); (case j1b => (first | lia | omega)); (case j2b => (first | lia | omega)); (case j3b => (first | lia | omega)); (case j4b => (first | lia | omega)))
    intro t9 h9 tk9 F9 N9
    rw [part_all]
    (try dsimp only)
    (try k_fold)
    repeat' (first | (k_unfold; (try dsimp only)) | (k_end; wrow_close) | (walk1; (try dsimp only)) | (dsimp only; walk1) | (leave1; walk_say "STEP leave1"; try dsimp only) | fail "no step")
    exact hret _ _ _ _ (TabStep.hit m1 m2 hd1 hd2) (by assumption) (cb_drop (by assumption) fun q hq => .tail _ (.tail _ (.tail _ (.tail _ hq))))
end Mine
end
section
open PySem PySem.W PyProof.Rows
set_option Elab.async false
set_option maxRecDepth 100000
set_option maxHeartbeats 4000000
set_option rowWalk.seconds 0
namespace Mine

noncomputable def fill (n : Nat) (x : Int) (c : Nat) : List Int := (dg n (cnt n x) x ++ List.replicate (c - cnt n x) 0).reverse

theorem filled_call {w : World} {p : Program} {loose : List Str} {mean : ExcName → Option Value} {mg mb : Str → Option Value} {n c : Nat} {x : Int} {tx tn tc : Tok}
    (hn1 : 1 ≤ n) (hn : n ≤ 200) (hx0 : 0 ≤ x) (hxb : Builtin.Int.intBits x ≤ 2000) (hlen : cnt n x ≤ 100) (hc : cnt n x ≤ c) (hc2 : c ≤ 100)
    {dp un : Nat} {gd : Option (List Code)} {cn : Str} {cs : Scope} {a : Addr} {ccd : Value} {cl : List (Str × Addr)} {outer : List Env} {A₀ : Around} {base h₀ : Heap} {L : Addr} {m : Str → Option Value} {s : Shared} {Q E : Value → Shared → Prop}
    {news : List (Addr × Obj)}
    (B : Below A₀ base outer h₀) (F : Fr h₀ L s.heap m) (X : (hd47.heap_39 w.params).In h₀) (N : News h₀ L s.heap news) (T : Top p loose mean mg mb h₀) (hcs : cs.kind = .function)
    (hR : TabReady 37 35 4 (inQ "_int2digits") news)
    (hdp : dp + 111 < recursionLimit) (hun : un + 910 < cLine)
    (hret : ∀ l ep vs' h' tk' news', TabStep 37 35 4 (inQ "_int2digits") news news' → IntsAre vs' (fill n x c) → (∀ p ∈ news, p.1 < l) → Fr h₀ L h' m → News h₀ L h' ((l, listOf vs'.toArray ep) :: news') → Q (.ref l) { s with heap := h', toks := tk' }) :
    wpAny (model PySem.Challenge.rw_of0047_01.row.prog w) (ktrTop dp un gd cn cs L a ccd cl outer) (call (.ref 147) [.int x tx, .int n tn, .int c tc]) Q E s := by
  revert X
  k_fill
  intro X
  refine wpAny_call ?_
  k_dflt cell_enter
  w_top on
  w_on
  k_with_none
  k_with "M" => (first | exact List.mem_cons_self | assumption | (refine' List.mem_cons_of_mem _ ?_; k_mem))
  k_with "U" => exact upd_of_updF (by assumption)
  k_with "A" => (first | with_reducible assumption | (refine all_ne_of_lt (by assumption) ?_; omega) | (refine all_ne_upd (by assumption) (by assumption) ?_; omega))
  k_with "ite" => (first | refine ite_pos (by first | assumption | (simp only [beq_iff_eq, bne_iff_ne, decide_eq_true_eq]; (first | lia | omega))) ?_ | refine ite_neg (by first | assumption | (simp only [beq_iff_eq, bne_iff_ne, decide_eq_true_eq]; (first | lia | omega))) ?_)
  k_with "call builtin:len" => (k_dflt (refine m_len (by assumption) (by k_mem) (by assumption) (by (first | lia | omega)) ?_); intro _ _)
  k_with "binaryOp Mult ref int" => (k_dflt (refine m_zeros (by k_asm) (by k_asm) (by k_mem) (by assumption) (by (first | lia | omega)) ?_); intro _ _ _ _ l9 _ _; (try k_lt l9); (try (revert l9; intro _)))
  k_with "call ref" => ((with_reducible show wpAny _ _ (call (Value.ref 42) _) _ _ _); k_dflt (refine i2d_call (by assumption) (by assumption) (by assumption) (by assumption) (by assumption) (by k_asm) (by k_asm) (by k_asm) (by k_asm) (by k_asm) (by exact rfl) (by assumption) (by (simp only [Around.deeper] at *; (first | lia | omega))) (by (simp only [Around.deeper] at *; (first | lia | omega))) ?_); intro _ _ _ _ _ _ _ _ _ _ _; (try dsimp only); (try k_fold))
  have hk : (c : Int) - ((dg n (cnt n x) x).length : Int) = ((c - cnt n x : Nat) : Int) := by rw [dg_length]; (first | lia | omega)
  have hdl := dg_length n (cnt n x) x
  k_steps
  (with_reducible rename (∀ p ∈ news, p.1 < _) => lq)
  (with_reducible rename (_ < _ ∧ _ < _ ∧ _ < _ ∧ _ < _ ∧ AllLt _ _) => lw)
  refine hret _ 0 _ _ _ _ (by assumption) (by unfold fill; assumption) (fun p hp => Nat.lt_trans (lq p hp) lw.2.2.2.1) (by assumption) (cb_drop (by assumption) ?_)
  intro q hq
  rcases List.mem_cons.mp hq with rfl | hq
  · k_mem
  · k_mem
theorem filled_call' {w : World} {p : Program} {loose : List Str} {mean : ExcName → Option Value} {mg mb : Str → Option Value} {n c : Nat} {x nI cI : Int} {tx tn tc : Tok} (hnI : nI = ((n : Nat) : Int)) (hcI : cI = ((c : Nat) : Int))
    (hn1 : 1 ≤ n) (hn : n ≤ 200) (hx0 : 0 ≤ x) (hxb : Builtin.Int.intBits x ≤ 2000) (hlen : cnt n x ≤ 100) (hc : cnt n x ≤ c) (hc2 : c ≤ 100)
    {dp un : Nat} {gd : Option (List Code)} {cn : Str} {cs : Scope} {a : Addr} {ccd : Value} {cl : List (Str × Addr)} {outer : List Env} {A₀ : Around} {base h₀ : Heap} {L : Addr} {m : Str → Option Value} {s : Shared} {Q E : Value → Shared → Prop}
    {news : List (Addr × Obj)}
    (B : Below A₀ base outer h₀) (F : Fr h₀ L s.heap m) (X : (hd47.heap_39 w.params).In h₀) (N : News h₀ L s.heap news) (T : Top p loose mean mg mb h₀) (hcs : cs.kind = .function)
    (hR : TabReady 37 35 4 (inQ "_int2digits") news)
    (hdp : dp + 111 < recursionLimit) (hun : un + 910 < cLine)
    (hret : ∀ l ep vs' h' tk' news', TabStep 37 35 4 (inQ "_int2digits") news news' → IntsAre vs' (fill n x c) → (∀ p ∈ news, p.1 < l) → Fr h₀ L h' m → News h₀ L h' ((l, listOf vs'.toArray ep) :: news') → Q (.ref l) { s with heap := h', toks := tk' }) :
    wpAny (model PySem.Challenge.rw_of0047_01.row.prog w) (ktrTop dp un gd cn cs L a ccd cl outer) (call (.ref 147) [.int x tx, .int nI tn, .int cI tc]) Q E s := by
  subst hnI hcI
  exact filled_call hn1 hn hx0 hxb hlen hc hc2 B F X N T hcs hR hdp hun hret
end Mine
end
section
open PySem PySem.W PyProof.Rows
set_option Elab.async false
namespace Mine
section
variable {prog : Program} {w : World} {A : Around} {E : Value → Shared → Prop} {s : Shared} {env : Env} {h₀ : Heap}
noncomputable def TurnEnd (h₀ : Heap) (L I : Addr) (oI : Obj) (J : (Str → Option Value) → List (Addr × Obj) → Prop) (s : Shared) (Qn : Shared → Prop) (Qr : Value → Shared → Prop) (f : Flow) (s₃ : Shared) : Prop :=
  match f with
  | .brk => Qn s₃
  | .ret v => Qr v s₃
  | _ => ∃ h' tk' m₂ news₂, s₃ = { s with heap := h', toks := tk' } ∧ Fr h₀ L h' m₂ ∧ News h₀ L h' ((I, oI) :: news₂) ∧ (∀ p ∈ news₂, p.1 ≠ I) ∧ J m₂ news₂

theorem m_forLoop {R : Result → Shared → Prop} {x : Str} {px : Pos} {body orelse : List Stmt} {I : Addr} {fp : List Addr} {n : Nat} {P : Nat → Value → Prop} {St : Nat → Heap → Prop} {m : Str → Option Value} {news : List (Addr × Obj)}
    (W : Walks prog w A I fp [I] n P St) (hx : env.kindOf x = some .local) (hp : (env.scope.kind == .class || (env.scope.kind == .module && env.locals != env.globals)) = false)
    (J : Nat → (Str → Option Value) → List (Addr × Obj) → Prop)
    (hob : ∀ i h, St i h → ∃ o, h.get? I = some o)
    (hfp : ∀ b ∈ fp, b = I ∨ (∃ o, ∀ i m news, J i m news → (b, o) ∈ news) ∨ ∃ o, h₀.get? b = some o)
    (hLf : env.locals ∉ fp) (hI0 : h₀.get? I = none)
    (hst : St 0 s.heap) (F : Fr h₀ env.locals s.heap m) (N : News h₀ env.locals s.heap news) (hnI : ∀ p ∈ news, p.1 ≠ I) (h0 : J 0 m news)
    (turn : ∀ i v m₁ news₁ o h tk, i < n → P i v → J i m₁ news₁ → (∀ p ∈ news₁, p.1 ≠ I) → Fr h₀ env.locals h (fun y => if y = x then some v else m₁ y) → News h₀ env.locals h ((I, o) :: news₁) →
      wpAny (model prog w) A (execs body env) (TurnEnd h₀ env.locals I o (J (i + 1)) s (fun s' => R (.ok .next) s') (fun v s' => R (.ok (.ret v)) s')) (fun _ _ => False) { s with heap := h, toks := tk })
    (done : ∀ h' tk m' news', J n m' news' → Fr h₀ env.locals h' m' → News h₀ env.locals h' news' → wpAny (model prog w) A (execs orelse env) (fun f s₃ => R (.ok f) s₃) (fun _ _ => False) { s with heap := h', toks := tk }) :
    codeAny (model prog w) A (.forLoop (.Name x px) (.ref I) body orelse env) R s := by
  have hLI : env.locals ≠ I := fun h => hLf (h ▸ W.sub I (by simp))
  have old : ∀ b o, h₀.get? b = some o → b ∉ [I] := fun b o e hb => by
    rw [List.mem_singleton.mp hb, hI0] at e; cases e
  refine codeAny_forLoop
    (fun k s' => ∃ h' tk m' news' i, s' = { s with heap := h', toks := tk } ∧ St i h' ∧ Fr h₀ env.locals h' m' ∧ News h₀ env.locals h' news' ∧ (∀ p ∈ news', p.1 ≠ I) ∧ J i m' news' ∧ i ≤ n ∧ k = n + 1 - i) ?_ (n + 1)
    ⟨s.heap, s.toks, m, news, 0, rfl, hst, F, N, hnI, h0, Nat.zero_le _, rfl⟩
  rintro k s' ⟨h', tk, m', news', i, rfl, hst', F', N', hnI', hJ, hi, rfl⟩
  have next : ∀ h₁ : Heap, (∀ b o, b ∉ [I] → h'.get? b = some o → h₁.get? b = some o) → Fr h₀ env.locals h₁ m' ∧ News h₀ env.locals h₁ news' := fun h₁ hk₁ =>
    ⟨⟨F'.ns.at' fun o e => hk₁ _ o (by simpa using hLI) e, fun b o e => hk₁ b o (old b o e) (F'.keep b o e), F'.above⟩, fun p hp => ⟨hk₁ _ _ (by simpa using hnI' p hp) (N' p hp).1, (N' p hp).2⟩⟩
  by_cases hlt : i < n
  · refine W.item i _ _ _ hlt hst' fun v h₁ tk₁ hP hst₁ hk₁ => ?_
    obtain ⟨F₁, N₁⟩ := next h₁ hk₁
    refine wpAny_assign_Name (wpAny_storeName_local hx F₁.ns (fun h₂ hn₂ hs₂ => ?_) hp)
    have F₂ := F₁.set hn₂ hs₂
    obtain ⟨o, ho⟩ := hob _ _ hst₁
    have hst₂ : St (i + 1) h₂ := W.frame _ _ _ hst₁ fun b hb o e => (hs₂.2 b fun q => hLf (q ▸ hb)).trans e
    have N₂ : News h₀ env.locals h₂ ((I, o) :: news') := fun p hp => by
      rcases List.mem_cons.mp hp with rfl | hp
      · exact ⟨(hs₂.2 I (Ne.symm hLI)).trans ho, Ne.symm hLI, hI0⟩
      · exact (N₁.set hs₂) p hp
    refine wpAny_mono (turn i v m' news' o h₂ _ hlt hP hJ hnI' F₂ N₂) (fun f s₃ h₃ => ?_) fun _ _ e => e.elim
    have fin : (∃ h' tk' m₂ news₂, s₃ = { s with heap := h', toks := tk' } ∧ Fr h₀ env.locals h' m₂ ∧ News h₀ env.locals h' ((I, o) :: news₂) ∧ (∀ p ∈ news₂, p.1 ≠ I) ∧ J (i + 1) m₂ news₂) →
        ∃ m, m < n + 1 - i ∧ ∃ h' tk m' news' i, s₃ = { s with heap := h', toks := tk } ∧ St i h' ∧ Fr h₀ env.locals h' m' ∧ News h₀ env.locals h' news' ∧ (∀ p ∈ news', p.1 ≠ I) ∧ J i m' news' ∧ i ≤ n ∧ m = n + 1 - i := by
      rintro ⟨h₃', tk₃, m₂, news₂, rfl, F₃, N₃, ha₃, hJ₃⟩
      refine ⟨n + 1 - (i + 1), by (first | lia | omega), h₃', tk₃, m₂, news₂, i + 1, rfl, ?_, F₃, (fun p hp => N₃ p (.tail _ hp)), ha₃, hJ₃, hlt, rfl⟩
      refine W.frame _ _ _ hst₂ fun b hb ob e => ?_
      rcases hfp b hb with rfl | ⟨oo, hh⟩ | ⟨oo, hh⟩
      · have e2 := (N₂ (b, o) (.head _)).1
        rw [e] at e2
        rw [Option.some.inj e2]
        exact (N₃ (b, o) (.head _)).1
      · have e2 := (N₂ (b, oo) (.tail _ (hh _ _ _ hJ))).1
        rw [e] at e2
        rw [Option.some.inj e2]
        exact (N₃ (b, oo) (.tail _ (hh _ _ _ hJ₃))).1
      · have e2 := F₂.keep b oo hh
        rw [e] at e2
        rw [Option.some.inj e2]
        exact F₃.keep b oo hh
    cases f with
    | ret v => exact h₃
    | brk => exact h₃
    | cont => exact fin h₃
    | next => exact fin h₃
  · have hin : i = n := by (first | lia | omega)
    subst hin
    refine W.done _ _ _ hst' fun h₁ tk₁ hk₁ => ?_
    obtain ⟨F₁, N₁⟩ := next h₁ hk₁
    exact wpAny_mono (done h₁ tk₁ m' news' hJ F₁ N₁) (fun _ _ e => e) fun _ _ e => e.elim
theorem m_reverse {m : Str → Option Value} {L l : Addr} {vs : List Value} {ep : Nat} {news news' : List (Addr × Obj)} {Q : Value → Shared → Prop} (F : Fr h₀ L s.heap m) (N : News h₀ L s.heap news) (U : Upd l (listOf vs.toArray ep) (listOf vs.reverse.toArray ep) news news') (hz : vs.length ≤ 1000)
    (h : ∀ h', Fr h₀ L h' m → News h₀ L h' news' → Q .none { s with heap := h' }) : wpAny (model prog w) A (call (.builtin "list.reverse") [.ref l]) Q E s :=
  kl_reverse (its := vs.toArray) (n := ep) (l := vs.reverse) F N (by simp) U (by rw [sizeLine_eq]; simp; (first | lia | omega)) h
end
end Mine
end
section
open PySem PySem.W PyProof.Rows
set_option Elab.async false
set_option maxRecDepth 100000
set_option maxHeartbeats 4000000
set_option rowWalk.seconds 0
namespace Mine

theorem noPylong {a b : Int} (h : Builtin.Int.intBits b ≤ 2000) : Builtin.divisionGoesByPylong a b = false := by
  refine PyProof.noPylong_of_log2 ?_
  unfold Builtin.Int.intBits at h
  split at h
  · rename_i h0
    have h0 : b = 0 := by simpa using h0
    rw [h0]
    decide
  · (first | lia | omega)
theorem div2_call {w : World} {p : Program} {loose : List Str} {mean : ExcName → Option Value} {mg mb : Str → Option Value} {a b n : Int} {ta tb tn : Tok}
    (hb : 0 < b) (hbb : Builtin.Int.intBits b ≤ 2000) (hab : (Builtin.Int.intBits a : Int) - n ≤ 4000)
    {dp un : Nat} {gd : Option (List Code)} {cn : Str} {cs : Scope} {a1 : Addr} {ccd : Value} {cl : List (Str × Addr)} {outer : List Env} {A₀ : Around} {base h₀ : Heap} {L : Addr} {m : Str → Option Value} {s : Shared} {Q E : Value → Shared → Prop}
    {news : List (Addr × Obj)}
    (B : Below A₀ base outer h₀) (F : Fr h₀ L s.heap m) (X : (hd47.heap_39 w.params).In h₀) (N : News h₀ L s.heap news) (T : Top p loose mean mg mb h₀) (hcs : cs.kind = .function)
    (hdp : dp + 11 < recursionLimit) (hun : un + 90 < cLine)
    (hret : ∀ t h' tk' t1 t2, (∀ p ∈ news, p.1 < t) → Fr h₀ L h' m → News h₀ L h' ((t, { cls := .type "tuple", data := .seq #[.int (a.fdiv b) t1, .int (a.fmod b) t2] }) :: news) → Q (.ref t) { s with heap := h', toks := tk' }) :
    wpAny (model PySem.Challenge.rw_of0047_01.row.prog w) (ktrTop dp un gd cn cs L a1 ccd cl outer) (call (.ref 28) [.int a ta, .int b tb, .int n tn]) Q E s := by
  revert X
  k_fill
  intro X
  refine wpAny_call ?_
  k_dflt cell_enter
  have hpl := noPylong (a := a) hbb
  w_top on
  w_on
  k_with_none
  k_with "M" => (first | exact List.mem_cons_self | assumption | (refine' List.mem_cons_of_mem _ ?_; k_mem))
  k_with "U" => exact upd_of_updF (by assumption)
  k_with "A" => (first | with_reducible assumption | (refine all_ne_of_lt (by assumption) ?_; omega) | (refine all_ne_upd (by assumption) (by assumption) ?_; omega))
  k_with "ite" => (first | refine ite_pos (by first | assumption | (simp only [beq_iff_eq, bne_iff_ne, decide_eq_true_eq]; (first | lia | omega))) ?_ | refine ite_neg (by first | assumption | (simp only [beq_iff_eq, bne_iff_ne, decide_eq_true_eq]; (first | lia | omega))) ?_)
  k_with "call builtin:divmod" => (k_dflt (refine divmod_N (by assumption) (by assumption) (by (first | lia | omega)) ?_ (Or.inl (by assumption))); intro _ _ _)
  repeat' (first | (k_unfold; (try dsimp only)) | (k_end; wrow_close) | (walk1; (try dsimp only)) | (dsimp only; walk1) | (leave1; walk_say "STEP leave1"; try dsimp only) | fail "no step")
  refine hret _ _ _ _ _ (fun p hp => ?_) (by assumption) (by assumption)
  exact Heap.lt_size ((by assumption : News _ _ _ news) p hp).1

theorem bits_pow (e : Nat) : Builtin.Int.intBits ((2 : Int) ^ e) = e + 1 := by
  have h1 : Builtin.Int.intBits ((2 : Int) ^ e) ≤ e + 1 := bits_lt (Int.le_of_lt (pow_pos' e)) (by
    rw [Int.pow_succ]; have := pow_pos' e; (first | lia | omega))
  have h2 : ¬ Builtin.Int.intBits ((2 : Int) ^ e) ≤ e := fun h => by
    have h3 := lt_pow_bits (x := (2 : Int) ^ e) (Int.le_of_lt (pow_pos' e))
    have h4 := pow_mono h
    (first | lia | omega)
  (first | lia | omega)
theorem strne1 : Str.ofString "r" ≠ Str.ofString "a_digit" := by decide
theorem strne2 : Str.ofString "r" ≠ Str.ofString "q_digit" := by decide
theorem strne3 : Str.ofString "q_digit" ≠ Str.ofString "a_digit" := by decide
noncomputable def mLoop (m : Str → Option Value) (qa qd : Option Value) (r : Value) : Str → Option Value := fun y =>
  if y = Str.ofString "a_digit" then qa else if y = Str.ofString "q_digit" then qd else if y = Str.ofString "r" then some r else m y
theorem mLoop_turn {M : Str → Option Value} {va vq vr r0 : Value} {qa qd : Option Value} :
    (fun y => if y = Str.ofString "r" then some vr else if y = Str.ofString "q_digit" then some vq else if y = Str.ofString "a_digit" then some va else if y = Str.ofString "a_digit" then qa else if y = Str.ofString "q_digit" then qd else if y = Str.ofString "r" then some r0 else M y) = mLoop M (some va) (some vq) vr := by
  funext y
  unfold mLoop
  by_cases h1 : y = Str.ofString "r"
  · subst h1
    rw [if_pos rfl, if_neg strne1, if_neg strne2, if_pos rfl]
  · by_cases h2 : y = Str.ofString "q_digit"
    · subst h2
      rw [if_neg h1, if_pos rfl, if_neg strne3, if_pos rfl]
    · by_cases h3 : y = Str.ofString "a_digit"
      · rw [if_neg h1, if_neg h2, if_pos h3, if_pos h3]
      · simp only [if_neg h1, if_neg h2, if_neg h3]
theorem mLoop_start {M : Str → Option Value} {vr : Value} (h1 : M (Str.ofString "a_digit") = none) (h2 : M (Str.ofString "q_digit") = none) (h3 : M (Str.ofString "r") = some vr) : M = mLoop M none none vr := by
  funext y
  unfold mLoop
  by_cases e1 : y = Str.ofString "a_digit"
  · rw [if_pos e1, e1, h1]
  · by_cases e2 : y = Str.ofString "q_digit"
    · rw [if_neg e1, if_pos e2, e2, h2]
    · by_cases e3 : y = Str.ofString "r"
      · rw [if_neg e1, if_neg e2, if_pos e3, e3, h3]
      · rw [if_neg e1, if_neg e2, if_neg e3]

theorem news_skip {h₀ h : Heap} {L : Addr} {x y : Addr × Obj} {r : List (Addr × Obj)} (N : News h₀ L h (x :: y :: r)) : News h₀ L h (x :: r) := fun p hp =>
  (List.mem_cons.mp hp).elim (fun e => N p (e ▸ List.mem_cons_self)) fun h => N p (List.mem_cons_of_mem _ (List.mem_cons_of_mem _ h))
theorem withM {P : Prop} {h₀ h : Heap} {L : Addr} {m : Str → Option Value} (F : Fr h₀ L h m) (k : ∀ M, M = m → Fr h₀ L h M → P) : P := k m rfl F
theorem rev_item {vs : List Value} {ns : List Int} {i : Nat} {v : Value} (hI : IntsAre vs ns) (hi : i < vs.toArray.size) (hv : vs.toArray[vs.toArray.size - 1 - i]? = some v) : ∃ d t, v = .int d t ∧ ns.reverse[i]? = some d ∧ d ∈ ns := by
  have hl := IntsAre.length hI
  rw [List.size_toArray] at hi hv
  rw [List.getElem?_toArray] at hv
  obtain ⟨d, t, rfl, hd⟩ := hI.at _ _ hv
  refine ⟨d, t, rfl, ?_, List.mem_of_getElem? hd⟩
  rw [List.getElem?_reverse (by (first | lia | omega)), ← hl]
  exact hd
theorem dmpos_call {w : World} {p : Program} {loose : List Str} {mean : ExcName → Option Value} {mg mb : Str → Option Value} {a : Int} {e : Nat} {ta tb : Tok}
    (he1 : 1 ≤ e) (he : e ≤ 150) (ha : 0 < a) (hab : Builtin.Int.intBits a ≤ 150)
    {dp un : Nat} {gd : Option (List Code)} {cn : Str} {cs : Scope} {a1 : Addr} {ccd : Value} {cl : List (Str × Addr)} {outer : List Env} {A₀ : Around} {base h₀ : Heap} {L : Addr} {m : Str → Option Value} {s : Shared} {Q E : Value → Shared → Prop}
    {news : List (Addr × Obj)}
    (B : Below A₀ base outer h₀) (F : Fr h₀ L s.heap m) (X : (hd47.heap_39 w.params).In h₀) (N : News h₀ L s.heap news) (T : Top p loose mean mg mb h₀) (hcs : cs.kind = .function)
    (H1 : TabHit 37 35 4 (inQ "_int2digits") news) (H2 : TabHit 44 50 4 (inQ "_digits2int") news)
    (hdp : dp + 120 < recursionLimit) (hun : un + 950 < cLine)
    (hret : ∀ t h' tk' t1 t2, (∀ p ∈ news, p.1 < t) → Fr h₀ L h' m → News h₀ L h' ((t, { cls := .type "tuple", data := .seq #[.int (a / 2 ^ e) t1, .int (a % 2 ^ e) t2] }) :: news) → Q (.ref t) { s with heap := h', toks := tk' }) :
    wpAny (model PySem.Challenge.rw_of0047_01.row.prog w) (ktrTop dp un gd cn cs L a1 ccd cl outer) (call (.ref 56) [.int a ta, .int (2 ^ e) tb]) Q E s := by
  revert X
  k_fill
  intro X
  refine wpAny_call ?_
  k_dflt cell_enter
  w_top on
  w_on
  k_with_none
  k_with "M" => (first | exact List.mem_cons_self | assumption | (refine' List.mem_cons_of_mem _ ?_; k_mem))
  k_with "U" => exact upd_of_updF (by assumption)
  k_with "A" => (first | with_reducible assumption | (refine all_ne_of_lt (by assumption) ?_; omega) | (refine all_ne_upd (by assumption) (by assumption) ?_; omega))
  k_with "ite" => (first | refine ite_pos (by first | assumption | (simp only [beq_iff_eq, bne_iff_ne, decide_eq_true_eq]; (first | lia | omega))) ?_ | refine ite_neg (by first | assumption | (simp only [beq_iff_eq, bne_iff_ne, decide_eq_true_eq]; (first | lia | omega))) ?_)
  k_with "call builtin:divmod" => (k_dflt (refine divmod_N (by assumption) (by assumption) (by (first | lia | omega)) ?_ (Or.inl (by assumption))); intro _ _ _)
  k_with "call ref" => ((with_reducible show wpAny _ _ (call (Value.ref 42) _) _ _ _); k_dflt (refine i2d_call (by with_reducible assumption) (by with_reducible assumption) (by with_reducible assumption) (by assumption) (by assumption) (by k_asm) (by k_asm) (by k_asm) (by k_asm) (by k_asm) (by exact rfl) (by assumption) (by (simp only [Around.deeper] at *; (first | lia | omega))) (by (simp only [Around.deeper] at *; (first | lia | omega))) ?_); intro _ _ _ _ _ _ _ _ _ _ _; (try dsimp only); (try k_fold))
  k_with "binaryOp LShift int int" => (refine lshift_int (by assumption) (by assumption) ?_)
  k_with "call type:reversed" => (k_dflt (refine krv_reversed (by k_asm) (by k_asm) (m_isList (by k_asm) (by k_mem)) ?_); intro _ _ _ _ _)
  k_with "call ref" => ((with_reducible show wpAny _ _ (call (Value.ref 28) _) _ _ _); k_dflt (refine div2_call (by with_reducible assumption) (by with_reducible assumption) (by with_reducible assumption) (by k_asm) (by k_asm) (by k_asm) (by k_asm) (by k_asm) (by exact rfl) (by (simp only [Around.deeper] at *; (first | lia | omega))) (by (simp only [Around.deeper] at *; (first | lia | omega))) ?_); intro _ _ _ _ _ lt9 _ _; (try k_lt lt9); (try (revert lt9; intro _)); (try dsimp only); (try k_fold))
  k_with "call builtin:list.append" => (k_dflt (refine m_append (by k_asm) (by k_asm) (by k_upd) (by (first | lia | omega)) ?_); intro _ _ _)
  k_with "call builtin:list.reverse" => (k_dflt (refine m_reverse (by k_asm) (by k_asm) (by k_upd) (by (first | lia | omega)) ?_); intro _ _ _)
  k_with "call ref" => ((with_reducible show wpAny _ _ (call (Value.ref 49) _) _ _ _); k_dflt (refine d2i_call (by with_reducible assumption) (by with_reducible assumption) (by with_reducible assumption) (by with_reducible assumption) (by with_reducible assumption) (by k_asm) (by k_asm) (by k_asm) (by k_asm) (by k_asm) (by exact rfl) (by exact TabHit.ready (TabHit.mono (by assumption) (by intro _ _; k_mem))) (by k_mem) (by (simp only [Around.deeper] at *; (first | lia | omega))) (by (simp only [Around.deeper] at *; (first | lia | omega))) ?_); intro _ _ _ _ _ _ _; (try dsimp only); (try k_fold))
  have hbits := bits_pow e
  have hn1 : 1 ≤ e + 1 := by (first | lia | omega)
  have hn2 : e + 1 ≤ 200 := by (first | lia | omega)
  have ha0 : 0 ≤ a := by (first | lia | omega)
  have hxb : Builtin.Int.intBits a ≤ 2000 := by (first | lia | omega)
  have hc150 : cnt (e + 1) a ≤ 150 := cnt_le hn1 (Nat.le_trans hab (Nat.le_mul_of_pos_left _ (by (first | lia | omega))))
  have hlen : cnt (e + 1) a ≤ 100 := cnt_le hn1 (by (first | lia | omega))
  have hR1 := H1.ready
  have hcp : 0 < cnt (e + 1) a := cnt_pos hn1 (by (first | lia | omega))
  iterate 7 walk1
  rw [hbits]
  iterate 13 walk1
  rename_i l9 ep9 vs9 h9 tk9 nw9 hst9 hI9 lq9 F9 N9
  have hnw := (H1.inv (by assumption) hst9).symm
  subst hnw
  have hvl : vs9.length = cnt (e + 1) a := by rw [IntsAre.length hI9, dg_length]
  iterate 12 walk1
  rename_i D2 _ l2 h3 F3 N3
  refine wpAny_For ?_
  iterate 7 walk1
  rename_i D9 h4 F4 N4 l4
  refine wpAny_pyIter_revIter (N4.get List.mem_cons_self |> fun z => ⟨_, z, rfl, rfl⟩) ?_
  refine withM F4 ?_
  intro M hM FM
  have hpb : (0 : Int) < 2 ^ e := pow_pos' e
  refine m_forLoop (m := M) (news := (D2, listOf #[] 0) :: (l9, listOf vs9.toArray ep9) :: news) (Walks.listRev rfl D9 l9 (Nat.ne_of_lt (l4 _ (List.mem_cons_of_mem _ List.mem_cons_self))) vs9.toArray) rfl rfl
    (fun i m₁ news₁ => ∃ qa qd tr vq epq, m₁ = mLoop M qa qd (.int (dfold (e + 1) (2 ^ e) ((dg (e + 1) (cnt (e + 1) a) a).reverse.take i)).1 tr) ∧ news₁ = (D2, listOf (List.toArray vq) epq) :: (l9, listOf vs9.toArray ep9) :: news ∧
      IntsAre vq (dfold (e + 1) (2 ^ e) ((dg (e + 1) (cnt (e + 1) a) a).reverse.take i)).2) ?hob ?hfp ?hLf ?hI0 ?hst FM ?hN ?hnI ?hJ0 ?turn ?done
  case hob => rintro i h ⟨_, ⟨o, ho, _⟩, _⟩; exact ⟨o, ho⟩
  case hfp =>
    intro b hb
    rcases List.mem_cons.mp hb with rfl | hb
    · exact .inl rfl
    · rw [List.mem_singleton.mp hb]
      refine .inr (.inl ⟨listOf vs9.toArray ep9, ?_⟩)
      rintro i m₁ news₁ ⟨qa, qd, tr, vq, epq, rfl, rfl, _⟩
      exact List.mem_cons_of_mem _ List.mem_cons_self
  case hLf =>
    intro hm
    rcases List.mem_cons.mp hm with hm | hm
    · exact (N4 _ List.mem_cons_self).2.1 hm.symm
    · exact (N4 _ (List.mem_cons_of_mem _ (List.mem_cons_of_mem _ List.mem_cons_self))).2.1 (List.mem_singleton.mp hm).symm
  case hI0 => exact (N4 _ List.mem_cons_self).2.2
  case hst =>
    refine ⟨Nat.zero_le _, ⟨_, (N4 _ List.mem_cons_self).1, rfl, ?_⟩, ⟨_, (N4 _ (List.mem_cons_of_mem _ (List.mem_cons_of_mem _ List.mem_cons_self))).1, rfl, _, rfl⟩⟩
    rw [List.size_toArray]
    show (revObj l9 _).data = _
    unfold revObj
    simp
  case hN => exact fun q hq => N4 q (List.mem_cons_of_mem _ hq)
  case hnI => exact fun q hq => Nat.ne_of_lt (l4 q hq)
  case hJ0 => exact ⟨none, none, _, [], 0, mLoop_start (by rw [hM]; rfl) (by rw [hM]; rfl) (by rw [hM]; rfl), rfl, .nil⟩
  case turn =>
    rintro i v m₁ news₁ o h tk hi hv ⟨qa, qd, tr, vq, epq, rfl, rfl, hIq⟩ hnI F5 N5
    obtain ⟨d, td, rfl, hd, hdm⟩ := rev_item hI9 hi hv
    rw [hM] at F5
    have hT := dturn (n := e + 1) hn1 ha hpb i
    have hdr := hT.2.2 d hdm
    have hvq : vq.length ≤ 150 := by rw [IntsAre.length hIq]; (first | lia | omega)
    have hnx := dfold_take (n := e + 1) (b := 2 ^ e) hd
    generalize hD : dfold (e + 1) (2 ^ e) ((dg (e + 1) (cnt (e + 1) a) a).reverse.take i) = st at *
    obtain ⟨r, qs⟩ := st
    dsimp only at hT hIq F5
    rw [dstep_value] at hnx
    have hbt := turn_bits he hT.1.1 hT.1.2 hdr.1 hdr.2
    obtain ⟨hs2, hab2⟩ := hbt
    have hs1 : (0 : Int) ≤ ((e + 1 : Nat) : Int) := by (first | lia | omega)
    have hbb : Builtin.Int.intBits ((2 : Int) ^ e) ≤ 2000 := by (first | lia | omega)
    have hDD : @LT.lt Nat _ D2 D9 := l4 _ List.mem_cons_self
    unfold mLoop at F5
    repeat' (first | (k_unfold; (try dsimp only)) | (k_end; wrow_close) | (walk1; (try dsimp only)) | (dsimp only; walk1) | (leave1; walk_say "STEP leave1"; try dsimp only) | fail "no step")
    rename_i ta9 tb9 lt9 _ _ _ _ _ h9 F9 N9
    refine ⟨h9, _, _, (D2, listOf (vq ++ [Value.int ((r * 2 ^ ((e + 1 : Nat) : Int).toNat + d).fdiv (2 ^ e)) ta9]).toArray (epq + 1)) :: (l9, listOf vs9.toArray ep9) :: news, rfl, F9, fun q hq => N9 q (List.mem_cons_of_mem _ hq), fun q hq => ?_, some (.int d td), some (.int ((r * 2 ^ ((e + 1 : Nat) : Int).toNat + d).fdiv (2 ^ e)) ta9), tb9, _, _, ?_, rfl, ?_⟩
    · rcases List.mem_cons.mp hq with rfl | hq
      · exact Nat.ne_of_lt hDD
      · exact Nat.ne_of_lt (l4 q (List.mem_cons_of_mem _ hq))
    · rw [hnx, hM]
      exact mLoop_turn
    · rw [hnx]
      exact ints_snoc hIq
  case done =>
    rintro h' tk m' news' ⟨qa, qd, tr, vq, epq, rfl, rfl, hIq⟩ F6 N6
    have hall : (dg (e + 1) (cnt (e + 1) a) a).reverse.take vs9.toArray.size = (dg (e + 1) (cnt (e + 1) a) a).reverse := by
      rw [List.size_toArray, hvl]
      exact List.take_of_length_le (by rw [List.length_reverse, dg_length]; (first | lia | omega))
    rw [hall] at F6 hIq
    rw [hM] at F6
    unfold mLoop at F6
    obtain ⟨hv1, hv2, hv3⟩ := long_division (n := e + 1) (a := a) (b := 2 ^ e) hn1 ha0 hcp hpb
    rw [hv2] at F6
    refine wpAny_execs_nil ?_
    dsimp only
    (try k_fold)
    have hIr := IntsAre.reverse hIq
    have hqL : (dfold (e + 1) (2 ^ e) (dg (e + 1) (cnt (e + 1) a) a).reverse).2.reverse.length = cnt (e + 1) a := by rw [List.length_reverse, dfold_len, List.length_reverse, dg_length]
    have hqn : (dfold (e + 1) (2 ^ e) (dg (e + 1) (cnt (e + 1) a) a).reverse).2.reverse ≠ [] := fun hh => by rw [hh] at hqL; simp at hqL; (first | lia | omega)
    have hql : (dfold (e + 1) (2 ^ e) (dg (e + 1) (cnt (e + 1) a) a).reverse).2.reverse.length ≤ 100 := by (first | lia | omega)
    have hqz : ∀ q ∈ (dfold (e + 1) (2 ^ e) (dg (e + 1) (cnt (e + 1) a) a).reverse).2.reverse, 0 ≤ q ∧ q < 2 ^ (e + 1) := fun q hq => hv3 q (List.mem_reverse.mp hq)
    have hvq : vq.length ≤ 150 := by rw [IntsAre.length hIq, dfold_len, List.length_reverse, dg_length]; (first | lia | omega)
    repeat' (first | (k_unfold; (try dsimp only)) | (k_end; wrow_close) | (walk1; (try dsimp only)) | (dsimp only; walk1) | (leave1; walk_say "STEP leave1"; try dsimp only) | fail "no step")
    (with_reducible rename TabStep _ _ _ _ _ _ => hst)
    have hnw := (H2.mono (by intro q hq; k_mem)).inv (by assumption) hst
    subst hnw
    (with_reducible rename News h₀ L _ _ => kN)
    rw [hv1] at kN
    refine hret _ _ _ _ _ (fun q hq => (by assumption : ∀ p ∈ (D2, listOf vq.reverse.toArray epq) :: (l9, listOf vs9.toArray ep9) :: news, p.1 < _) q (by k_mem)) (by assumption) (news_skip (news_skip kN))
end Mine
end
section
open PySem PySem.W PyProof.Rows
set_option Elab.async false
set_option maxRecDepth 100000
set_option maxHeartbeats 4000000
set_option rowWalk.seconds 0
namespace Mine

theorem idm_call {w : World} {p : Program} {loose : List Str} {mean : ExcName → Option Value} {mg mb : Str → Option Value} {a : Int} {e : Nat} {ta tb : Tok}
    (he1 : 1 ≤ e) (he : e ≤ 150) (ha : 0 < a) (hab : Builtin.Int.intBits a ≤ 150)
    {dp un : Nat} {gd : Option (List Code)} {cn : Str} {cs : Scope} {a1 : Addr} {ccd : Value} {cl : List (Str × Addr)} {outer : List Env} {A₀ : Around} {base h₀ : Heap} {L : Addr} {m : Str → Option Value} {s : Shared} {Q E : Value → Shared → Prop}
    {news : List (Addr × Obj)}
    (B : Below A₀ base outer h₀) (F : Fr h₀ L s.heap m) (X : (hd47.heap_39 w.params).In h₀) (N : News h₀ L s.heap news) (T : Top p loose mean mg mb h₀) (hcs : cs.kind = .function)
    (H1 : TabHit 37 35 4 (inQ "_int2digits") news) (H2 : TabHit 44 50 4 (inQ "_digits2int") news)
    (hdp : dp + 130 < recursionLimit) (hun : un + 970 < cLine)
    (hret : ∀ t h' tk' t1 t2, (∀ p ∈ news, p.1 < t) → Fr h₀ L h' m → News h₀ L h' ((t, { cls := .type "tuple", data := .seq #[.int (a / 2 ^ e) t1, .int (a % 2 ^ e) t2] }) :: news) → Q (.ref t) { s with heap := h', toks := tk' }) :
    wpAny (model PySem.Challenge.rw_of0047_01.row.prog w) (ktrTop dp un gd cn cs L a1 ccd cl outer) (call (.ref 63) [.int a ta, .int (2 ^ e) tb]) Q E s := by
  revert X
  k_fill
  intro X
  refine wpAny_call ?_
  k_dflt cell_enter
  w_top on
  w_on
  k_with_none
  k_with "M" => (first | exact List.mem_cons_self | assumption | (refine' List.mem_cons_of_mem _ ?_; k_mem))
  k_with "U" => exact upd_of_updF (by assumption)
  k_with "A" => (first | with_reducible assumption | (refine all_ne_of_lt (by assumption) ?_; omega) | (refine all_ne_upd (by assumption) (by assumption) ?_; omega))
  k_with "ite" => (first | refine ite_pos (by first | assumption | (simp only [beq_iff_eq, bne_iff_ne, decide_eq_true_eq]; (first | lia | omega))) ?_ | refine ite_neg (by first | assumption | (simp only [beq_iff_eq, bne_iff_ne, decide_eq_true_eq]; (first | lia | omega))) ?_)
  k_with "call ref" => ((with_reducible show wpAny _ _ (call (Value.ref 56) _) _ _ _); k_dflt (refine dmpos_call (by with_reducible assumption) (by with_reducible assumption) (by with_reducible assumption) (by with_reducible assumption) (by k_asm) (by k_asm) (by k_asm) (by k_asm) (by k_asm) (by exact rfl) (by with_reducible assumption) (by with_reducible assumption) (by (simp only [Around.deeper] at *; (first | lia | omega))) (by (simp only [Around.deeper] at *; (first | lia | omega))) ?_); intro _ _ _ _ _ _ _ _; (try dsimp only); (try k_fold))
  have hpb : (0 : Int) < 2 ^ e := pow_pos' e
  have hp1 : ¬ (((2 : Int) ^ e == 0) = true) := by simp; (first | lia | omega)
  have hp2 : ¬ (decide ((2 : Int) ^ e < 0) = true) := by simp; (first | lia | omega)
  have hp3 : ¬ (decide (a < 0) = true) := by simp; (first | lia | omega)
  repeat' (first | (k_unfold; (try dsimp only)) | (k_end; wrow_close) | (walk1; (try dsimp only)) | (dsimp only; walk1) | (leave1; walk_say "STEP leave1"; try dsimp only) | fail "no step")
  exact hret _ _ _ _ _ (by assumption) (by assumption) (by assumption)
end Mine
end
section
open PySem PySem.W PyProof.Rows
set_option Elab.async false
set_option maxRecDepth 100000
set_option maxHeartbeats 4000000
set_option rowWalk.seconds 0
namespace Mine

theorem m_sign {prog : Program} {w : World} {A : Around} {E : Value → Shared → Prop} {s : Shared} {value slice : PySem.Expr} {x : Int} {t u : Tok} {Q : Value → Shared → Prop} (h : ∀ tk, Q (.int (code (Builtin.bitAnd x 63)) tk) { s with toks := s.toks + 1 })
    (hs : subscripted slice false (.bytes b64L.toArray t) (.int (Builtin.bitAnd x 63) u) = operate [.bytes b64L.toArray t, .int (Builtin.bitAnd x 63) u] (getItem (.bytes b64L.toArray t) (.int (Builtin.bitAnd x 63) u))) (ht : ∀ r, letTemporaryGo value (.bytes b64L.toArray t) r = pure ()) :
    wpAny (model prog w) A (subscriptTail value slice (.bytes b64L.toArray t) (.int (Builtin.bitAnd x 63) u)) Q E s := by
  have hr := bitAnd_range x (y := 63) (by decide)
  exact subscriptTail_builtin (typeIs_bytes _ _ _) FB.slot_bytes_getitem.lookup (getItem_bytes (by decide) hr.1 (by have : b64L.length = 64 := rfl; (first | lia | omega)) (h _)) hs ht
theorem m_bytes {prog : Program} {w : World} {A : Around} {E : Value → Shared → Prop} {s : Shared} {h₀ : Heap} {L l : Addr} {m : Str → Option Value} {news : List (Addr × Obj)} {vs : List Value} {ns : List Int} {ep : Nat} {Q : Value → Shared → Prop} (hh : A.handled = none) (F : Fr h₀ L s.heap m) (N : News h₀ L s.heap news)
    (hm : (l, listOf vs.toArray ep) ∈ news) (hI : IntsAre vs ns) (hr : ∀ n ∈ ns, 0 ≤ n ∧ n < 256) (hz : ns.length ≤ 100000)
    (h : ∀ h' t k, Fr h₀ L h' m → News h₀ L h' news → Q (.bytes (byteArr ns) t) { s with heap := h', toks := k }) : wpAny (model prog w) A (call (.type "bytes") [.ref l]) Q E s :=
  call_bytes_ints (m_isList N hm) hI hr (by rw [IntsAre.length hI, sizeLine_eq]; (first | lia | omega)) hh fun h' t k hk => h h' t k (F.keptAll hk) (fun p hp => ⟨hk _ _ (N p hp).1, (N p hp).2⟩)
noncomputable def mB (M : Str → Option Value) (qb : Option Value) (l c : Value) : Str → Option Value := fun y =>
  if y = Str.ofString "b" then qb else if y = Str.ofString "leftbits" then some l else if y = Str.ofString "leftchar" then some c else M y
theorem mB_of {Y M : Str → Option Value} {qb : Option Value} {l c : Value} (h1 : Y (Str.ofString "b") = qb) (h2 : Y (Str.ofString "leftbits") = some l) (h3 : Y (Str.ofString "leftchar") = some c)
    (h : ∀ y, y ≠ Str.ofString "b" → y ≠ Str.ofString "leftbits" → y ≠ Str.ofString "leftchar" → Y y = M y) : Y = mB M qb l c := by
  funext y
  unfold mB
  by_cases e1 : y = Str.ofString "b"
  · rw [if_pos e1, e1, h1]
  · by_cases e2 : y = Str.ofString "leftbits"
    · rw [if_neg e1, if_pos e2, e2, h2]
    · by_cases e3 : y = Str.ofString "leftchar"
      · rw [if_neg e1, if_neg e2, if_pos e3, e3, h3]
      · rw [if_neg e1, if_neg e2, if_neg e3, h y e1 e2 e3]
noncomputable def octs (b : Array UInt8) : List Int := b.toList.map fun c => (c.toNat : Int)
noncomputable def whB (k : Nat) : Stmt := nthS (whileS (nthS (forS (nthS (bodyS (topS 13)) 5)) 2)) k
theorem b2a_step {w : World} {p : Program} {loose : List Str} {mean : ExcName → Option Value} {mg mb : Str → Option Value} {lb c : Int} {tl tc : Tok} {D : Addr} {vo : List Value} {ep : Nat}
    {A : Around} {h₀ : Heap} {L : Addr} {m : Str → Option Value} {s : Shared} {news : List (Addr × Obj)} {news' : Value → List (Addr × Obj)} {Q : Flow → Shared → Prop} {E : Value → Shared → Prop}
    (X : (hd47.heap_39 w.params).In h₀) (T : Top p loose mean mg mb h₀) (F : Fr h₀ L s.heap m) (N : News h₀ L s.heap news) (hm : (D, listOf (List.toArray vo) ep) ∈ news)
    (hU : ∀ x, Upd D (listOf (List.toArray vo) ep) (listOf (List.toArray (vo ++ [x])) (ep + 1)) news (news' x)) (m1 : m (Str.ofString "out") = some (.ref D)) (m2 : m (Str.ofString "leftbits") = some (.int lb tl)) (m3 : m (Str.ofString "leftchar") = some (.int c tc))
    (hl0 : 0 ≤ lb - 6) (hl1 : lb - 6 ≤ 1000) (hc : 0 ≤ c) (hc1 : c < 65536) (hv : vo.length ≤ 700)
    (hret : ∀ t1 t2 h' tk, Fr h₀ L h' (fun y => if y = Str.ofString "leftbits" then some (.int (lb - 6) t1) else m y) → News h₀ L h' (news' (.int (code (Builtin.bitAnd (c.fdiv (2 ^ (lb - 6).toNat)) 63)) t2)) → Q .next { s with heap := h', toks := tk }) :
    wpAny (model PySem.Challenge.rw_of0047_01.row.prog w) (A.deeper (envOf (Str.ofString "b2a_base64") (scopeS (topS 13)) L 85 (.ref 84))) (execs [whB 0, whB 1] (envOf (Str.ofString "b2a_base64") (scopeS (topS 13)) L 85 (.ref 84))) Q E s := by
  have e : whB 0 = whB 0 := rfl
  conv at e => rhs; whnf
  have e1 : whB 1 = whB 1 := rfl
  conv at e1 => rhs; whnf
  have e2 : scopeS (topS 13) = scopeS (topS 13) := rfl
  conv at e2 => rhs; whnf
  obtain ⟨M, hM⟩ : ∃ M, M = m := ⟨m, rfl⟩
  rw [← hM] at hret
  rw [chain_cons m1, chain_cons m2, chain_cons m3] at F hM
  clear m1 m2 m3
  rw [e, e1, e2]
  clear e e1 e2
  revert X
  k_fill
  intro X
  w_top on
  w_on
  k_with_none
  k_with "M" => (first | exact List.mem_cons_self | assumption | (refine' List.mem_cons_of_mem _ ?_; k_mem))
  k_with "U" => exact upd_of_updF (by assumption)
  k_with "A" => (first | with_reducible assumption | (refine all_ne_of_lt (by assumption) ?_; omega) | (refine all_ne_upd (by assumption) (by assumption) ?_; omega))
  k_with "call builtin:list.append" => (k_dflt (refine m_append (by k_asm) (by k_asm) (hU _) (by (first | lia | omega)) ?_); intro _ _ _)
  k_with "subscriptTail" => ((with_reducible show wpAny _ _ (subscriptTail _ _ (Value.bytes _ _) (Value.int (Builtin.bitAnd _ 63) _)) _ _ _); k_dflt (refine m_sign (hs := by with_unfolding_all rfl) (ht := by intro _; with_unfolding_all rfl) ?_); intro _)
  repeat (first | (k_unfold; (try dsimp only)) | (walk1; (try dsimp only)) | (dsimp only; walk1))
  (with_reducible rename Fr _ _ _ _ => F9)
  (with_reducible rename News _ _ _ _ => N9)
  exact hret _ _ _ _ (fr_top hM F9) N9
theorem b2a_call {w : World} {p : Program} {loose : List Str} {mean : ExcName → Option Value} {mg mb : Str → Option Value} {b : Array UInt8} {tb : Tok} (hbs : b.size ≤ 300) (hb3 : (bfold (octs b)).1 = 0)
    {dp un : Nat} {gd : Option (List Code)} {cn : Str} {cs : Scope} {a1 : Addr} {ccd : Value} {cl : List (Str × Addr)} {outer : List Env} {A₀ : Around} {base h₀ : Heap} {L : Addr} {m : Str → Option Value} {s : Shared} {Q E : Value → Shared → Prop}
    {news : List (Addr × Obj)}
    (B : Below A₀ base outer h₀) (F : Fr h₀ L s.heap m) (X : (hd47.heap_39 w.params).In h₀) (N : News h₀ L s.heap news) (T : Top p loose mean mg mb h₀) (hcs : cs.kind = .function)
    (hdp : dp + 20 < recursionLimit) (hun : un + 90 < cLine)
    (hret : ∀ h' tk' t1, Fr h₀ L h' m → News h₀ L h' news → Q (.bytes (byteArr ((bfold (octs b)).2.2.map code)) t1) { s with heap := h', toks := tk' }) :
    wpAny (model PySem.Challenge.rw_of0047_01.row.prog w) (ktrTop dp un gd cn cs L a1 ccd cl outer) (call (.ref 85) [.bytes b tb] [(Str.ofString "newline", .bool false)]) Q E s := by
  revert X
  k_fill
  intro X
  refine wpAny_call ?_
  k_dflt (refine' code_def ?k1 ?k2 ?k3 ?k4 ?k5 ?kA ?kF ?kK ?k6 ?k7 ?k8 ?k9 ?kB ?_ ?c2 ?c3 ?c4 ?c5; (case kA => exact rfl); (case kF => exact rfl); (case kK => assumption); (case k1 => k_asm); (case k2 => k_asm); (case k3 => k_asm); (case k4 => k_asm); (case k5 => k_asm); (case k6 => k_is); (case k7 => k_is); (case k8 => ktr_room); (case k9 => first | exact BindsTo.of_eq rfl | exact binds_K (by k_in) rfl (by k_is) rfl rfl rfl); (case c5 => decide); (case kB => exact locs rfl); (case c2 => exact rfl); (case c3 => exact rfl); (case c4 => exact rfl); k_whole; intro g' L' h' FG' F' N' B' X' T'; (try dsimp only); (try k_lift B'); (try k_fold))
  w_top on
  w_on
  k_with_none
  k_with "M" => (first | exact List.mem_cons_self | assumption | (refine' List.mem_cons_of_mem _ ?_; k_mem))
  k_with "U" => exact upd_of_updF (by assumption)
  k_with "A" => (first | with_reducible assumption | (refine all_ne_of_lt (by assumption) ?_; omega) | (refine all_ne_upd (by assumption) (by assumption) ?_; omega))
  k_with "call ref" => (k_here; (with_reducible show wpAny _ _ (call (Value.ref _) _ []) _ _ _); k_dflt (refine wpAny_call ?_; refine' code_def ?k1u ?k2u ?k3u ?k4u ?k5u ?kAu ?kFu ?kKu ?k6u ?k7u ?k8u ?k9u ?kBu ?_ ?c2u ?c3u ?c4u ?c5u; (case kAu => exact rfl); (case kFu => exact rfl); (case kKu => exact rfl); (case k1u => k_asm); (case k2u => k_asm); (case k3u => k_asm); (case k4u => k_asm); (case k5u => k_asm); (case k6u => k_is); (case k7u => k_is); (case k8u => ktr_room); (case k9u => first | exact BindsTo.of_eq rfl | exact binds_K (by k_in) rfl (by k_is) rfl rfl rfl); (case c5u => decide); (case kBu => exact locs rfl); (case c2u => exact rfl); (case c3u => exact rfl); (case c4u => exact rfl); k_whole; intro _ _ _ _ _ _ B' _ _; (try dsimp only); (try k_lift B'); (try k_fold)))
  k_with "call ref" => (k_here; (with_reducible show wpAny _ _ (call (Value.ref _) _ []) _ _ _); k_dflt (refine wpAny_call ?_; refine' code_def ?k1v ?k2v ?k3v ?k4v ?k5v ?kAv ?kFv ?kKv ?k6v ?k7v ?k8v ?k9v ?kBv ?_ ?c2v ?c3v ?c4v ?c5v; (case kAv => exact rfl); (case kFv => exact rfl); (case kKv => exact rfl); (case k1v => k_asm); (case k2v => k_asm); (case k3v => k_asm); (case k4v => k_asm); (case k5v => k_asm); (case k6v => k_is); (case k7v => k_is); (case k8v => ktr_room); (case k9v => first | exact BindsTo.of_eq rfl | exact binds_K (by k_in) rfl (by k_is) rfl rfl rfl); (case c5v => decide); (case kBv => exact locs rfl); (case c2v => exact rfl); (case c3v => exact rfl); (case c4v => exact rfl); k_whole; intro _ _ _ _ _ _ B' _ _; (try dsimp only); (try k_lift B'); (try k_fold)))
  k_with "call ref" => (k_here; (with_reducible show wpAny _ _ (call (Value.ref _) _ []) _ _ _); k_dflt (refine wpAny_call ?_; refine' code_def ?k1w ?k2w ?k3w ?k4w ?k5w ?kAw ?kFw ?kKw ?k6w ?k7w ?k8w ?k9w ?kBw ?_ ?c2w ?c3w ?c4w ?c5w; (case kAw => exact rfl); (case kFw => exact rfl); (case kKw => exact rfl); (case k1w => k_asm); (case k2w => k_asm); (case k3w => k_asm); (case k4w => k_asm); (case k5w => k_asm); (case k6w => k_is); (case k7w => k_is); (case k8w => ktr_room); (case k9w => first | exact BindsTo.of_eq rfl | exact binds_K (by k_in) rfl (by k_is) rfl rfl rfl); (case c5w => decide); (case kBw => exact locs rfl); (case c2w => exact rfl); (case c3w => exact rfl); (case c4w => exact rfl); k_whole; intro _ _ _ _ _ _ B' _ _; (try dsimp only); (try k_lift B'); (try k_fold)))
  k_with "ite" => (first | refine ite_pos (by first | assumption | (simp only [beq_iff_eq, bne_iff_ne, decide_eq_true_eq]; (first | lia | omega))) ?_ | refine ite_neg (by first | assumption | (simp only [beq_iff_eq, bne_iff_ne, decide_eq_true_eq]; (first | lia | omega))) ?_)
  k_with "call type:type" => ((with_reducible show wpAny _ _ (call _ [Value.bytes _ _]) _ _ _); refine call_type_of (Tx := "bytes") rfl (by decide +kernel) ?_)
  k_with "exec For Name Name cons nil" => (k_dflt (refine wpAny_For ?_))
  k_with "binaryOp LShift int int" => (refine lshift_int (by assumption) (by assumption) ?_)
  k_with "call builtin:list.append" => (k_dflt (refine m_append (by k_asm) (by k_asm) (by k_upd) (by first | (first | lia | omega) | (simp only [List.length_append, List.length_cons, List.length_nil]; (first | lia | omega))) ?_); intro _ _ _)
  k_with "execs cons" => ((with_reducible refine wpAny_execs_cons ?_); (try dsimp only); (try ((refine toks_gen ?_); intro _)))
  k_with "execs cons" => ((with_reducible show wpAny _ _ (execs [Stmt.Expr _ _, Stmt.Assign _ _ _] _) _ _ _); k_dflt (refine b2a_step (by k_asm) (by k_asm) (by k_asm) (by k_asm) (by k_mem) (fun _ => by k_upd) rfl rfl rfl (by decide) (by decide) hlb.1 hlb.2 (by first | exact Nat.le_trans hvl (by decide) | (rw [List.length_append]; exact Nat.le_trans (Nat.succ_le_succ hvl) (by decide))) ?_); intro _ _ _ _ _ _; (try dsimp only); (try k_fold))
  k_with "call type:bytes" => (k_dflt (refine m_bytes (by exact rfl) (by k_asm) (by k_asm) (by k_mem) (by with_reducible assumption) (by with_reducible assumption) (by (first | lia | omega)) ?_); intro _ _ _ _ _)
  k_steps
  rename_i Do h3 lDo _ _ _ _ h4 F4 N4 _
  refine KBw.pyIter_bytes ?_
  refine withM F4 ?_
  intro M hM FM
  have hDI : @LT.lt Nat _ Do h4.objs.size := Heap.lt_size (N4 _ List.mem_cons_self).1
  have hnI : ∀ p ∈ news, p.1 < h4.objs.size := fun p hp => Heap.lt_size (N4 p (List.mem_cons_of_mem _ hp)).1
  have hLI : ∀ oL, h4.get? L' = some oL → L' < h4.objs.size := fun oL e => Heap.lt_size e
  have hg0 : g'.get? h4.objs.size = none := by
    cases hq : g'.get? h4.objs.size with
    | none => rfl
    | some o => exact absurd (Heap.lt_size (F4.keep _ _ hq)) (Nat.lt_irrefl _)
  have hpush : ∀ o : Obj, (h4.push o).get? h4.objs.size = some o ∨ o.isFreed = true := fun o => by
    cases hf : o.isFreed with
    | false => exact .inl (Heap.get?_push_size _ hf)
    | true => exact .inr rfl
  have hLs : L' ≠ h4.objs.size := Nat.ne_of_lt F4.ns.lt
  refine m_forLoop (m := M) (news := (Do, listOf #[] 0) :: news) (KBw.walks rfl h4.objs.size b tb) rfl rfl
    (fun i m₁ news₁ => ∃ qb tl c tc vo ep, m₁ = mB M qb (.int (bfold ((octs b).take i)).1 tl) (.int c tc) ∧ news₁ = (Do, listOf (List.toArray vo) ep) :: news ∧
      IntsAre vo ((bfold ((octs b).take i)).2.2.map code) ∧ 0 ≤ c ∧ c < 65536 ∧ c % 2 ^ (bfold ((octs b).take i)).1.toNat = (bfold ((octs b).take i)).2.1) ?hob ?hfp ?hLf ?hI0 ?hst (FM.push _) ?hN ?hnI ?hJ0 ?turn ?done
  case hob => rintro i h ⟨o, ho, _⟩; exact ⟨o, ho⟩
  case hfp => intro b hb; exact .inl (List.mem_singleton.mp hb)
  case hLf => exact fun hm => hLs (List.mem_singleton.mp hm)
  case hI0 => exact hg0
  case hst => exact ⟨_, Heap.get?_push_size _ rfl, rfl, rfl⟩
  case hN => exact fun q hq => ⟨Heap.get?_push_of_some _ (N4 q hq).1, (N4 q hq).2⟩
  case hnI =>
    intro q hq
    rcases List.mem_cons.mp hq with rfl | hq
    · exact Nat.ne_of_lt hDI
    · exact Nat.ne_of_lt (hnI q hq)
  case hJ0 =>
    exact ⟨none, _, 0, _, [], 0, mB_of (by rw [hM]; rfl) (by rw [hM]; rfl) (by rw [hM]; rfl) (fun _ _ _ _ => rfl), rfl, .nil, by decide, by decide, rfl⟩
  case turn =>
    rintro i v m₁ news₁ o h tk hi hv ⟨qb, tl, c, tc, vo, ep, rfl, rfl, hIo, hc0, hc1, hcm⟩ hnI2 F5 N5
    obtain ⟨by0, ub, hb1, rfl⟩ := hv
    have hbx : (octs b)[i]? = some (by0.toNat : Int) := by
      unfold octs
      rw [List.getElem?_map, Array.getElem?_toList, hb1]
      rfl
    have hb0 : (0 : Int) ≤ (by0.toNat : Int) := by (first | lia | omega)
    have hb2 : (by0.toNat : Int) < 256 := by have := by0.toNat_lt; (first | lia | omega)
    have hnx := bfold_take hbx
    have hol := bfold_len ((octs b).take i)
    have hol2 : ((octs b).take i).length ≤ 300 := by rw [List.length_take]; unfold octs; rw [List.length_map, Array.length_toList]; (first | lia | omega)
    have hvl : vo.length ≤ 600 := by rw [IntsAre.length hIo, List.length_map]; (first | lia | omega)
    rw [hM] at F5
    have hbits := bfold_bits ((octs b).take i)
    generalize hS : bfold ((octs b).take i) = st at *
    obtain ⟨bits, low, out⟩ := st
    generalize hB : (by0.toNat : Int) = bv at *
    dsimp only at hbits hcm hIo F5
    have h8 : (0 : Int) ≤ 8 := by decide
    have hlb := lc_bounds hc0 hb0 hb2
    have hcb : (Builtin.Int.intBits c : Int) + 8 ≤ 2 ^ 27 := by
      have := bits_lt (k := 16) hc0 (by (first | lia | omega))
      (first | lia | omega)
    have hnt : ∀ (vo : List Value) (ep : Nat), ∀ q ∈ (Do, listOf (List.toArray vo) ep) :: news, q.1 ≠ h4.objs.size := by
      intro vo ep q hq
      rcases List.mem_cons.mp hq with rfl | hq
      · exact Nat.ne_of_lt hDI
      · exact Nat.ne_of_lt (hnI q hq)
    unfold mB at F5
    iterate 21 (first | (k_unfold; (try dsimp only)) | (walk1; (try dsimp only)) | (dsimp only; walk1))
    rcases hbits with rfl | rfl | rfl
    · repeat (first | (k_unfold; (try dsimp only)) | (walk1; (try dsimp only)) | (dsimp only; walk1))
      (with_reducible rename Fr _ _ _ _ => F9)
      (with_reducible rename News _ _ _ _ => N9)
      refine ⟨_, _, _, _, rfl, F9, N9, hnt _ _, some (.int bv ub), _, lcT c bv, _, _, _, mB_of rfl (by rw [hnx]; rfl) rfl ?_, rfl, ?_, hlb.1, hlb.2, ?_⟩
      · intro y e1 e2 e3
        rw [hM]
        simp only [if_neg e1, if_neg e2, if_neg e3]
      · rw [hnx, bstep0]
        rw [List.map_append, ← (turn0 hc0 hb0 hb2).1]
        exact ints_snoc hIo
      · rw [hnx, bstep0]
        exact (turn0 hc0 hb0 hb2).2
    · repeat (first | (k_unfold; (try dsimp only)) | (walk1; (try dsimp only)) | (dsimp only; walk1))
      (with_reducible rename Fr _ _ _ _ => F9)
      (with_reducible rename News _ _ _ _ => N9)
      refine ⟨_, _, _, _, rfl, F9, N9, hnt _ _, some (.int bv ub), _, lcT c bv, _, _, _, mB_of rfl (by rw [hnx]; rfl) rfl ?_, rfl, ?_, hlb.1, hlb.2, ?_⟩
      · intro y e1 e2 e3
        rw [hM]
        simp only [if_neg e1, if_neg e2, if_neg e3]
      · rw [hnx, bstep2]
        rw [List.map_append, ← (turn2 hc0 hb0 hb2 hcm).1]
        exact ints_snoc hIo
      · rw [hnx, bstep2]
        exact (turn2 hc0 hb0 hb2 hcm).2
    · repeat (first | (k_unfold; (try dsimp only)) | (walk1; (try dsimp only)) | (dsimp only; walk1))
      (with_reducible rename Fr _ _ _ _ => F9)
      (with_reducible rename News _ _ _ _ => N9)
      refine ⟨_, _, _, _, rfl, F9, N9, hnt _ _, some (.int bv ub), _, lcT c bv, _, _, _, mB_of rfl (by rw [hnx]; rfl) rfl ?_, rfl, ?_, hlb.1, hlb.2, ?_⟩
      · intro y e1 e2 e3
        rw [hM]
        simp only [if_neg e1, if_neg e2, if_neg e3]
      · rw [hnx, bstep4]
        rw [show (out ++ [low * 4 + bv / 64, bv % 64]).map code = (out.map code ++ [code (low * 4 + bv / 64)]) ++ [code (bv % 64)] by simp, ← (turn4 hc0 hb0 hb2 hcm).1, ← (turn4 hc0 hb0 hb2 hcm).2.1]
        exact ints_snoc (ints_snoc hIo)
      · rw [hnx, bstep4]
        exact (turn4 hc0 hb0 hb2 hcm).2.2
  case done =>
    rintro h' tk m' news' ⟨qb, tl, c, tc, vo, ep, rfl, rfl, hIo, hc0, hc1, hcm⟩ F6 N6
    have hall : (octs b).take b.size = octs b := List.take_of_length_le (by unfold octs; rw [List.length_map, Array.length_toList]; (first | lia | omega))
    rw [hall, hb3] at F6
    rw [hall] at hIo
    rw [hM] at F6
    unfold mB at F6
    have hcr : ∀ k ∈ (bfold (octs b)).2.2.map code, 0 ≤ k ∧ k < 256 := by
      intro k hk
      obtain ⟨j, _, rfl⟩ := List.mem_map.mp hk
      have := (b64L.getD j.toNat 0).toNat_lt
      unfold code
      (first | lia | omega)
    have hcl : ((bfold (octs b)).2.2.map code).length ≤ 1000 := by
      have h1 := bfold_len (octs b)
      have h2 : (octs b).length = b.size := by unfold octs; rw [List.length_map, Array.length_toList]
      rw [List.length_map]
      (first | lia | omega)
    refine wpAny_execs_nil ?_
    dsimp only
    (try k_fold)
    k_steps
    exact hret _ _ _ (by assumption) (cb_drop (by assumption) fun q hq => List.mem_cons_of_mem _ hq)
theorem b64_call {w : World} {p : Program} {loose : List Str} {mean : ExcName → Option Value} {mg mb : Str → Option Value} {b : Array UInt8} {tb : Tok} (hbs : b.size ≤ 300) (hb3 : (bfold (octs b)).1 = 0)
    {dp un : Nat} {gd : Option (List Code)} {cn : Str} {cs : Scope} {a1 : Addr} {ccd : Value} {cl : List (Str × Addr)} {outer : List Env} {A₀ : Around} {base h₀ : Heap} {L : Addr} {m : Str → Option Value} {s : Shared} {Q E : Value → Shared → Prop}
    {news : List (Addr × Obj)}
    (B : Below A₀ base outer h₀) (F : Fr h₀ L s.heap m) (X : (hd47.heap_39 w.params).In h₀) (N : News h₀ L s.heap news) (T : Top p loose mean mg mb h₀) (hcs : cs.kind = .function)
    (hdp : dp + 30 < recursionLimit) (hun : un + 110 < cLine)
    (hret : ∀ h' tk' t1, Fr h₀ L h' m → News h₀ L h' news → Q (.bytes (byteArr ((bfold (octs b)).2.2.map code)) t1) { s with heap := h', toks := tk' }) :
    wpAny (model PySem.Challenge.rw_of0047_01.row.prog w) (ktrTop dp un gd cn cs L a1 ccd cl outer) (call (.ref 93) [.bytes b tb]) Q E s := by
  revert X
  k_fill
  intro X
  refine wpAny_call ?_
  k_dflt (refine' code_def ?k1 ?k2 ?k3 ?k4 ?k5 ?kA ?kF ?kK ?k6 ?k7 ?k8 ?k9 ?kB ?_ ?c2 ?c3 ?c4 ?c5; (case kA => exact rfl); (case kF => exact rfl); (case kK => assumption); (case k1 => k_asm); (case k2 => k_asm); (case k3 => k_asm); (case k4 => k_asm); (case k5 => k_asm); (case k6 => k_is); (case k7 => k_is); (case k8 => ktr_room); (case k9 => first | exact BindsTo.of_eq rfl | exact binds_K (by k_in) rfl (by k_is) rfl rfl rfl); (case c5 => decide); (case kB => exact locs rfl); (case c2 => exact rfl); (case c3 => exact rfl); (case c4 => exact rfl); k_whole; intro g' L' h' FG' F' N' B' X' T'; (try dsimp only); (try k_lift B'); (try k_fold))
  w_top on
  w_on
  k_with_none
  k_with "M" => (first | exact List.mem_cons_self | assumption | (refine' List.mem_cons_of_mem _ ?_; k_mem))
  k_with "U" => exact upd_of_updF (by assumption)
  k_with "A" => (first | with_reducible assumption | (refine all_ne_of_lt (by assumption) ?_; omega) | (refine all_ne_upd (by assumption) (by assumption) ?_; omega))
  k_with "call ref" => (k_here; (with_reducible show wpAny _ _ (call (Value.ref _) _ []) _ _ _); k_dflt (refine wpAny_call ?_; refine' code_def ?k1u ?k2u ?k3u ?k4u ?k5u ?kAu ?kFu ?kKu ?k6u ?k7u ?k8u ?k9u ?kBu ?_ ?c2u ?c3u ?c4u ?c5u; (case kAu => exact rfl); (case kFu => exact rfl); (case kKu => exact rfl); (case k1u => k_asm); (case k2u => k_asm); (case k3u => k_asm); (case k4u => k_asm); (case k5u => k_asm); (case k6u => k_is); (case k7u => k_is); (case k8u => ktr_room); (case k9u => first | exact BindsTo.of_eq rfl | exact binds_K (by k_in) rfl (by k_is) rfl rfl rfl); (case c5u => decide); (case kBu => exact locs rfl); (case c2u => exact rfl); (case c3u => exact rfl); (case c4u => exact rfl); k_whole; intro _ _ _ _ _ _ B' _ _; (try dsimp only); (try k_lift B'); (try k_fold)))
  k_with "call ref" => (k_here; (with_reducible show wpAny _ _ (call (Value.ref _) _ []) _ _ _); k_dflt (refine wpAny_call ?_; refine' code_def ?k1v ?k2v ?k3v ?k4v ?k5v ?kAv ?kFv ?kKv ?k6v ?k7v ?k8v ?k9v ?kBv ?_ ?c2v ?c3v ?c4v ?c5v; (case kAv => exact rfl); (case kFv => exact rfl); (case kKv => exact rfl); (case k1v => k_asm); (case k2v => k_asm); (case k3v => k_asm); (case k4v => k_asm); (case k5v => k_asm); (case k6v => k_is); (case k7v => k_is); (case k8v => ktr_room); (case k9v => first | exact BindsTo.of_eq rfl | exact binds_K (by k_in) rfl (by k_is) rfl rfl rfl); (case c5v => decide); (case kBv => exact locs rfl); (case c2v => exact rfl); (case c3v => exact rfl); (case c4v => exact rfl); k_whole; intro _ _ _ _ _ _ B' _ _; (try dsimp only); (try k_lift B'); (try k_fold)))
  k_with "call ref" => (k_here; (with_reducible show wpAny _ _ (call (Value.ref _) _ []) _ _ _); k_dflt (refine wpAny_call ?_; refine' code_def ?k1w ?k2w ?k3w ?k4w ?k5w ?kAw ?kFw ?kKw ?k6w ?k7w ?k8w ?k9w ?kBw ?_ ?c2w ?c3w ?c4w ?c5w; (case kAw => exact rfl); (case kFw => exact rfl); (case kKw => exact rfl); (case k1w => k_asm); (case k2w => k_asm); (case k3w => k_asm); (case k4w => k_asm); (case k5w => k_asm); (case k6w => k_is); (case k7w => k_is); (case k8w => ktr_room); (case k9w => first | exact BindsTo.of_eq rfl | exact binds_K (by k_in) rfl (by k_is) rfl rfl rfl); (case c5w => decide); (case kBw => exact locs rfl); (case c2w => exact rfl); (case c3w => exact rfl); (case c4w => exact rfl); k_whole; intro _ _ _ _ _ _ B' _ _; (try dsimp only); (try k_lift B'); (try k_fold)))
  k_with "ite" => (first | refine ite_pos (by first | assumption | (simp only [beq_iff_eq, bne_iff_ne, decide_eq_true_eq]; (first | lia | omega))) ?_ | refine ite_neg (by first | assumption | (simp only [beq_iff_eq, bne_iff_ne, decide_eq_true_eq]; (first | lia | omega))) ?_)
  k_with "call type:type" => ((with_reducible show wpAny _ _ (call _ [Value.bytes _ _]) _ _ _); refine call_type_of (Tx := "bytes") rfl (by decide +kernel) ?_)
  k_with "exec For Name Name cons nil" => (k_dflt (refine wpAny_For ?_))
  k_with "binaryOp LShift int int" => (refine lshift_int (by assumption) (by assumption) ?_)
  k_with "call builtin:list.append" => (k_dflt (refine m_append (by k_asm) (by k_asm) (by k_upd) (by first | (first | lia | omega) | (simp only [List.length_append, List.length_cons, List.length_nil]; (first | lia | omega))) ?_); intro _ _ _)
  k_with "execs cons" => ((with_reducible show wpAny _ _ (execs [Stmt.Expr _ _, Stmt.Assign _ _ _] _) _ _ _); k_dflt (refine b2a_step (by k_asm) (by k_asm) (by k_asm) (by k_asm) (by k_mem) (fun _ => by k_upd) rfl rfl rfl (by decide) (by decide) hlb.1 hlb.2 (by first | exact Nat.le_trans hvl (by decide) | (rw [List.length_append]; exact Nat.le_trans (Nat.succ_le_succ hvl) (by decide))) ?_); intro _ _ _ _ _ _; (try dsimp only); (try k_fold))
  k_with "call type:bytes" => (k_dflt (refine m_bytes (by exact rfl) (by k_asm) (by k_asm) (by k_mem) (by with_reducible assumption) (by with_reducible assumption) (by (first | lia | omega)) ?_); intro _ _ _ _ _)
  k_steps
  k_dflt (refine' b2a_call hbs hb3 ?n1 ?n2 ?n3 ?n4 ?n5 ?nK ?nd ?nu ?_; (case n1 => k_asm); (case n2 => k_asm); (case n3 => k_asm); (case n4 => k_asm); (case n5 => k_asm); (case nK => exact rfl); (case nd => (simp only [Around.deeper] at *; (first | lia | omega))); (case nu => (simp only [Around.deeper] at *; (first | lia | omega))))
  intro h9 tk9 t9 F9 N9
  (try dsimp only)
  (try k_fold)
  k_steps
  exact hret _ _ _ (by assumption) (by assumption)
end Mine
end
section
open PySem PySem.W PyProof.Rows
set_option Elab.async false
namespace Mine
theorem off1_ne {D : Addr} {l : List (Addr × Obj)} (h : LCg.Off1 D l) : ∀ p ∈ l, p.1 ≠ D := by
  induction l with
  | nil => intro p hp; cases hp
  | cons q r ih =>
    intro p hp
    rcases List.mem_cons.mp hp with rfl | hp
    · exact h.1
    · exact ih h.2 p hp
section
variable {prog : Program} {w : World} {A : Around} {E : Value → Shared → Prop} {s : Shared} {h₀ : Heap} {L : Addr} {m : Str → Option Value} {env : Env}
inductive RowIs (R : Nat → Value → Prop) : Nat → List Value → Prop
  | nil : RowIs R 0 []
  | snoc {i : Nat} {ys : List Value} {y : Value} : RowIs R i ys → R i y → RowIs R (i + 1) (ys ++ [y])
theorem RowIs.length {R : Nat → Value → Prop} {n : Nat} {ys : List Value} (h : RowIs R n ys) : ys.length = n := by
  induction h with
  | nil => rfl
  | snoc _ _ ih => simp [ih]
noncomputable def EltEnd (h₀ : Heap) (L : Addr) (m : Str → Option Value) (s : Shared) (led : List (Addr × Obj)) (R : Value → Prop) (y : Value) (s₂ : Shared) : Prop :=
  ∃ h' tk', s₂ = { s with heap := h', toks := tk' } ∧ Fr h₀ L h' m ∧ News h₀ L h' led ∧ R y
noncomputable abbrev EltOk (prog : Program) (w : World) (A : Around) (h₀ : Heap) (L : Addr) (m : Str → Option Value) (env : Env) (elt : Expr) (x : Str) (scope : Scope) (cl : List (Str × Addr)) (s : Shared) (P : Nat → Value → Prop) (R : Nat → Value → Prop) (n : Nat) (news : List (Addr × Obj)) : Prop :=
  ∀ i v I oI C oC D oD m₂ h tk (E' : Value → Shared → Prop), i < n → P i v → LCg.NsObj oC m₂ → m₂ x = some v → Fr h₀ L h m → News h₀ L h ((I, oI) :: (C, oC) :: (D, oD) :: news) → LCg.Off3 I C D news → ((@Ne Nat I C) ∧ (@Ne Nat I D) ∧ (@Ne Nat C D)) →
    wpAny (model prog w) A (eval elt (compEnvC scope cl C env)) (EltEnd h₀ L m s ((I, oI) :: (C, oC) :: (D, oD) :: news) (R i)) E' { s with heap := h, toks := tk }
theorem rest_all {elt : Expr} {x : Str} {scope : Scope} {cl : List (Str × Addr)} {S : List (Addr × Obj) → Prop} {P : Nat → Value → Prop} {R : Nat → Value → Prop} {n : Nat} {news : List (Addr × Obj)} {Fin : List Value → List (Addr × Obj) → Prop}
    (hS : S news) (hel : EltOk prog w A h₀ L m env elt x scope cl s P R n news) (hfin : ∀ ys, RowIs R n ys → Fin ys news) :
    ∀ (k i : Nat) (ys : List Value), i + k = n → RowIs R i ys → LCg.CompRest prog w A h₀ L m env elt x scope cl s S P Fin k i ys news
  | 0, i, ys, hn, hr => by
    have : i = n := by (first | lia | omega)
    subst this
    exact hfin ys hr
  | k + 1, i, ys, hn, hr => by
    intro v I oI C oC D m₂ h tk E' hP hC hx F N off ne
    refine wpAny_mono (hel i v I oI C oC D _ m₂ h tk E' (by (first | lia | omega)) hP hC hx F N off ne) (fun y s₂ hy => ?_) fun _ _ e => e
    obtain ⟨h', tk', rfl, F', N', hR⟩ := hy
    exact ⟨h', tk', news, rfl, F', N', off, hS, rest_all hS hel hfin k (i + 1) (ys ++ [y]) (by (first | lia | omega)) (hr.snoc hR)⟩
noncomputable def BytesSrc (prog : Program) (w : World) (A : Around) (h₀ : Heap) (L : Addr) (env : Env) (elt : Expr) (x : Str) (scope : Scope) (cl : List (Str × Addr)) (R : Nat → Value → Prop) (Q : Value → Shared → Prop) (xv : Value) (s₁ : Shared) : Prop :=
  ∃ b t m news, xv = .bytes b t ∧ A.handled = none ∧ Fr h₀ L s₁.heap m ∧ News h₀ L s₁.heap news ∧ b.size ≤ sizeLine ∧
    (∀ g, EltOk prog w A h₀ L m env elt x scope cl { s₁ with heap := g } (fun i v => ∃ c u, b[i]? = some c ∧ v = .int (c.toNat : Int) u) R b.size news) ∧
    ∀ D h' tk ys, RowIs R b.size ys → Fr h₀ L h' m → News h₀ L h' ((D, listOf ys.toArray ys.length) :: news) → (∀ p ∈ news, p.1 ≠ D) → Q (.ref D) { s₁ with heap := h', toks := tk }
theorem comp_bytes {elt iter : Expr} {x : Str} {px : Pos} {scope : Scope} {cl : List (Str × Addr)} {pos : Pos} {Q : Value → Shared → Prop} {R : Nat → Value → Prop} {m₀ : Str → Option Value} (_F₀ : Fr h₀ L s.heap m₀)
    (hclos : closureFor scope env = pure cl) (hcell : ∀ y ∈ scope.names, y.2 ≠ .cell) (hkind : scope.kind = .function)
    (hnames : ∀ y ∈ scope.names, y.2 = .local → scope.names.lookup y.1 = some .local) (hx : scope.names.lookup x = some .local)
    (h : wpAny (model prog w) A (eval iter env) (BytesSrc prog w A h₀ L env elt x scope cl R Q) E s)
    (hs : ∀ x, foldedSetIterable iter env x = pure x) :
    wpAny (model prog w) A (eval (.ListComp elt [⟨.Name x px, iter, [], 0⟩] scope pos) env) Q E s := by
  rw [eval_ListComp]
  refine wpAny_comprehension_free (use := none) rfl hs hclos hkind hnames (wpAny_mono h (fun xv s₁ h₁ => ?_) fun _ _ e => e)
  obtain ⟨b, t, m, news, rfl, hh, F, N, hsz, hel, hQ⟩ := h₁
  refine KBw.pyIter_bytes ?_
  have up : ∀ c o, s₁.heap.get? c = some o → (s₁.heap.push { cls := .type "bytes_iterator", data := .fields #[.bytes b t, .int 0 0] }).get? c = some o := fun c o e => Heap.get?_push_of_some _ e
  refine LCg.block_U (S := fun _ => True) (Fin := fun ys nw => nw = news ∧ RowIs R b.size ys) (KBw.walks hh s₁.heap.objs.size b t) hsz (fun i h st => by obtain ⟨o, e, _⟩ := st; exact ⟨o, e⟩) (fun i h h' o nw st e e' _ _ _ => ?_) hcell hkind hx ⟨_, Heap.get?_push_size _ rfl, rfl, rfl⟩ (fun c hc => ?_)
    (F.keeps up) (fun p hp => ⟨up _ _ (N p hp).1, (N p hp).2⟩) (Nat.ne_of_lt F.ns.lt) (next_is_new F) (fun p hp => Nat.ne_of_lt (Heap.lt_size (N p hp).1)) trivial
    (rest_all trivial (hel _) (fun ys hr => ⟨rfl, hr⟩) b.size 0 [] (by (first | lia | omega)) .nil) ?_
  · obtain ⟨o', q, r⟩ := st
    rw [e] at q
    cases q
    exact ⟨o, e', r⟩
  · rw [List.mem_singleton.mp hc]
    show s₁.heap.objs.size < (s₁.heap.push _).objs.size
    rw [Heap.size_push]; exact Nat.lt_succ_self _
  · rintro D C h tk m' ys news' F' N' o1 hn hC₀ hD₀ hCL hDL hCD offC ⟨rfl, hr⟩
    refine ⟨m', hn, fun h'' hs'' => hQ D h'' tk ys hr (F'.change hs'' hCL hC₀) (fun p hp => ?_) ?_⟩
    · refine ⟨hs''.extBut _ _ ?_ (N' p hp).1, (N' p hp).2⟩
      rcases List.mem_cons.mp hp with rfl | hp
      · exact Ne.symm hCD
      · exact offC p hp
    · intro p hp hpD
      have e1 := (N' (D, _) (.head _)).1
      exact off1_ne o1 p hp hpD
end
end Mine
end
section
open PySem PySem.W PyProof.Rows
set_option Elab.async false
namespace Mine
noncomputable def chrS (c : Int) : Str := ⟨#[c.toNat]⟩
noncomputable def textOf (cs : List Int) : Str := ⟨(cs.map Int.toNat).toArray⟩
theorem join_chars : ∀ cs : List Int, Str.join ⟨#[]⟩ (cs.map chrS) = textOf cs
  | [] => rfl
  | [c] => rfl
  | c :: d :: r => by
    show chrS c ++ ⟨#[]⟩ ++ Str.join ⟨#[]⟩ ((d :: r).map chrS) = _
    rw [join_chars (d :: r)]
    apply Str.ext'
    simp [chrS, textOf, Str.cps_append]
theorem textOf_append (as bs : List Int) : textOf as ++ textOf bs = textOf (as ++ bs) := by
  apply Str.ext'
  simp [textOf, Str.cps_append]
section
variable {prog : Program} {w : World} {A : Around} {E : Value → Shared → Prop} {s : Shared} {h₀ : Heap} {L D : Addr} {news : List (Addr × Obj)} {vs : List Value} {ss : List Str} {ep : Nat}
theorem strs_pairs : ∀ {vs : List Value} {ss : List Str}, StrsAre vs ss → ∃ l : List (Str × Tok), vs = strValues l ∧ l.map (·.1) = ss
  | _, _, .nil => ⟨[], rfl, rfl⟩
  | _, _, .cons y t h => by
    obtain ⟨l, rfl, rfl⟩ := strs_pairs h
    exact ⟨(y, t) :: l, rfl, rfl⟩
theorem m_join {t : Tok} {Q : Value → Shared → Prop} (N : News h₀ L s.heap news) (hm : (D, listOf vs.toArray ep) ∈ news) (hS : StrsAre vs ss) (hz : (ss.map (·.length)).sum ≤ 1000000)
    (h : ∀ t k, Q (.str (Str.join ⟨#[]⟩ ss) t) { s with toks := k }) : wpAny (model prog w) A (call (.builtin "str.join") [.str (Str.ofString "") t, .ref D]) Q E s := by
  obtain ⟨l, rfl, rfl⟩ := strs_pairs hS
  have e : Str.ofString "" = ⟨#[]⟩ := by decide +kernel
  rw [e]
  refine SC.join (m_isList N hm) rfl (joinOk_of (by show _ + _ * 0 ≤ _; (first | lia | omega))) fun t' k => ?_
  unfold Txt.join
  rw [StrLaws.glued_eq_join]
  exact h t' k
theorem strs_snoc {y : Str} {t : Tok} : ∀ {vs : List Value} {ss : List Str}, StrsAre vs ss → StrsAre (vs ++ [.str y t]) (ss ++ [y])
  | _, _, .nil => .cons y t .nil
  | _, _, .cons z u h => .cons z u (strs_snoc h)
theorem row_strs {R : Nat → Value → Prop} {f : Nat → Str} (hf : ∀ i y, R i y → ∃ t, y = .str (f i) t) {n : Nat} {ys : List Value} (h : RowIs R n ys) : StrsAre ys ((List.range n).map f) := by
  induction h with
  | nil => exact .nil
  | snoc _ hr ih =>
    obtain ⟨t, rfl⟩ := hf _ _ hr
    rw [List.range_succ, List.map_append]
    exact strs_snoc ih
end
end Mine
end
section
open PySem PySem.W PyProof.Rows
namespace Mine
noncomputable def be (n : Nat) : Int → Nat → List Int
  | _, 0 => []
  | x, c + 1 => be n (x / 2 ^ n) c ++ [x % 2 ^ n]
theorem be_length (n : Nat) : ∀ (c : Nat) (x : Int), (be n x c).length = c
  | 0, _ => rfl
  | c + 1, x => by simp [be, be_length n c]
theorem be_zero (n : Nat) : ∀ c : Nat, be n 0 c = List.replicate c 0
  | 0 => rfl
  | c + 1 => by
    show be n (0 / 2 ^ n) c ++ [0 % 2 ^ n] = _
    rw [Int.zero_ediv, Int.zero_emod, be_zero n c, List.replicate_succ']
theorem be_range (n : Nat) : ∀ (c : Nat) (x : Int), ∀ d ∈ be n x c, 0 ≤ d ∧ d < 2 ^ n
  | 0, _, d, hd => by cases hd
  | c + 1, x, d, hd => by
    rcases List.mem_append.mp hd with hd | hd
    · exact be_range n c _ d hd
    · rw [List.mem_singleton.mp hd]
      exact ⟨Int.emod_nonneg _ (pow_ne n), Int.emod_lt_of_pos _ (pow_pos' n)⟩
theorem be_split (n : Nat) : ∀ (j i : Nat) (x : Int), be n x (i + j) = be n (x / 2 ^ (n * j)) i ++ be n x j
  | 0, i, x => by simp [be]
  | j + 1, i, x => by
    show be n (x / 2 ^ n) (i + j) ++ [x % 2 ^ n] = _ ++ (be n (x / 2 ^ n) j ++ [x % 2 ^ n])
    rw [be_split n j i (x / 2 ^ n), ediv_pow, show n + n * j = n * (j + 1) by rw [Nat.mul_succ, Nat.add_comm], List.append_assoc]
theorem be_low (n : Nat) : ∀ (c : Nat) (x : Int), be n (x % 2 ^ (n * c)) c = be n x c
  | 0, _ => rfl
  | c + 1, x => by
    have h1 : x % 2 ^ (n * (c + 1)) % 2 ^ n = x % 2 ^ n := Int.emod_emod_of_dvd _ (by rw [Nat.mul_succ, Nat.add_comm, Int.pow_add]; exact Int.dvd_mul_right _ _)
    have h2 : x % 2 ^ (n * (c + 1)) / 2 ^ n = x / 2 ^ n % 2 ^ (n * c) := by
      rw [show n * (c + 1) = n + n * c by rw [Nat.mul_succ, Nat.add_comm], Int.pow_add]
      exact emod_mul_ediv' _ (pow_pos' n)
    show be n (x % 2 ^ (n * (c + 1)) / 2 ^ n) c ++ [x % 2 ^ (n * (c + 1)) % 2 ^ n] = _
    rw [h1, h2, be_low n c]
    rfl
theorem dg_be (n : Nat) : ∀ (k : Nat) (x : Int), 0 ≤ x → x < 2 ^ (n * (k + 1)) → (dg n (k + 1) x).reverse = be n x (k + 1)
  | 0, x, h0, h1 => by
    rw [Nat.zero_add, Nat.mul_one] at h1
    show [x] = be n (x / 2 ^ n) 0 ++ [x % 2 ^ n]
    rw [Int.emod_eq_of_lt h0 h1]
    rfl
  | k + 1, x, h0, h1 => by
    show (x % 2 ^ n :: dg n (k + 1) (x / 2 ^ n)).reverse = be n (x / 2 ^ n) (k + 1) ++ [x % 2 ^ n]
    rw [List.reverse_cons, dg_be n k (x / 2 ^ n) (Int.ediv_nonneg h0 (Int.le_of_lt (pow_pos' n))) ?_]
    refine Int.ediv_lt_of_lt_mul (pow_pos' n) ?_
    rw [← Int.pow_add, show n * (k + 1) + n = n * (k + 1 + 1) by rw [Nat.mul_succ n (k + 1)]]
    exact h1
theorem fill_be {n c : Nat} {x : Int} (hn : 1 ≤ n) (hx : 0 ≤ x) (hc : cnt n x ≤ c) : fill n x c = be n x c := by
  unfold fill
  rw [List.reverse_append, List.reverse_replicate]
  have hlt := lt_cnt hn hx
  have e : be n x c = be n (x / 2 ^ (n * cnt n x)) (c - cnt n x) ++ be n x (cnt n x) := by rw [← be_split, Nat.sub_add_cancel hc]
  rw [e, Int.ediv_eq_zero_of_lt hx hlt, be_zero]
  congr 1
  rcases Nat.eq_zero_or_pos (cnt n x) with h | h
  · rw [h]; rfl
  · obtain ⟨k, hk⟩ : ∃ k, cnt n x = k + 1 := ⟨cnt n x - 1, by (first | lia | omega)⟩
    rw [hk] at hlt ⊢
    exact dg_be n k x hx hlt
theorem fill_range {n c : Nat} {x : Int} (hn : 1 ≤ n) (hx : 0 ≤ x) (hc : cnt n x ≤ c) : ∀ d ∈ fill n x c, 0 ≤ d ∧ d < 2 ^ n := by
  rw [fill_be hn hx hc]; exact be_range n c x
theorem octs_bytes {ns : List Int} (h : ∀ n ∈ ns, 0 ≤ n ∧ n < 256) : octs (byteArr ns) = ns := by
  unfold octs byteArr
  rw [List.map_map]
  conv => rhs; rw [← List.map_id ns]
  apply List.map_congr_left
  intro n hn
  have := h n hn
  show ((n.toNat.toUInt8).toNat : Int) = n
  rw [Nat.toUInt8_eq, UInt8.toNat_ofNat']
  (first | lia | omega)
theorem low_high (x a b c : Int) (ha : 0 < a) (h : c = a * b) : x % c / a = x / a % b := by
  subst h
  exact emod_mul_ediv' x ha
theorem bfold_be : ∀ (k : Nat) (x : Int), bfold (be 8 x (3 * k)) = (0, 0, be 6 x (4 * k))
  | 0, _ => rfl
  | k + 1, x => by
    have e1 : be 8 x (3 * (k + 1)) = be 8 (x / 2 ^ 24) (3 * k) ++ [x / 2 ^ 16 % 2 ^ 8] ++ [x / 2 ^ 8 % 2 ^ 8] ++ [x % 2 ^ 8] := by
      show be 8 (x / 2 ^ 8 / 2 ^ 8 / 2 ^ 8) (3 * k) ++ [x / 2 ^ 8 / 2 ^ 8 % 2 ^ 8] ++ [x / 2 ^ 8 % 2 ^ 8] ++ [x % 2 ^ 8] = _
      simp only [ediv_pow, Nat.reduceAdd]
    have e2 : be 6 x (4 * (k + 1)) = be 6 (x / 2 ^ 24) (4 * k) ++ [x / 2 ^ 18 % 2 ^ 6] ++ [x / 2 ^ 12 % 2 ^ 6] ++ [x / 2 ^ 6 % 2 ^ 6] ++ [x % 2 ^ 6] := by
      show be 6 (x / 2 ^ 6 / 2 ^ 6 / 2 ^ 6 / 2 ^ 6) (4 * k) ++ [x / 2 ^ 6 / 2 ^ 6 / 2 ^ 6 % 2 ^ 6] ++ [x / 2 ^ 6 / 2 ^ 6 % 2 ^ 6] ++ [x / 2 ^ 6 % 2 ^ 6] ++ [x % 2 ^ 6] = _
      simp only [ediv_pow, Nat.reduceAdd]
    rw [e1, bfold_snoc, bfold_snoc, bfold_snoc, bfold_be k (x / 2 ^ 24), bstep0, bstep2, bstep4, e2]
    have h1 : x / 2 ^ 16 % 2 ^ 8 / 4 = x / 2 ^ 18 % 2 ^ 6 := by rw [← ediv_pow x 16 2]; exact low_high (x / 2 ^ 16) 4 64 256 (by decide) rfl
    have h2 : x / 2 ^ 16 % 2 ^ 8 % 4 * 16 + x / 2 ^ 8 % 2 ^ 8 / 16 = x / 2 ^ 12 % 2 ^ 6 := by
      rw [← ediv_pow x 8 8, ← ediv_pow x 8 4]
      generalize x / 2 ^ 8 = y
      rw [show y % 2 ^ 8 / 16 = y / 2 ^ 4 % 16 from low_high y 16 16 256 (by decide) rfl, Int.emod_emod_of_dvd _ (show (4 : Int) ∣ 2 ^ 8 by decide), show y / 2 ^ 8 = y / 2 ^ 4 / 2 ^ 4 from (ediv_pow y 4 4).symm]
      generalize y / 2 ^ 4 = z
      lia
    have h3 : x / 2 ^ 8 % 2 ^ 8 % 16 * 4 + x % 2 ^ 8 / 64 = x / 2 ^ 6 % 2 ^ 6 := by
      rw [show x % 2 ^ 8 / 64 = x / 2 ^ 6 % 4 from low_high x 64 4 256 (by decide) rfl, Int.emod_emod_of_dvd _ (show (16 : Int) ∣ 2 ^ 8 by decide), show x / 2 ^ 8 = x / 2 ^ 6 / 2 ^ 2 from (ediv_pow x 6 2).symm]
      generalize x / 2 ^ 6 = z
      lia
    have h4 : x % 2 ^ 8 % 64 = x % 2 ^ 6 := Int.emod_emod_of_dvd _ (by decide)
    rw [h1, h2, h3, h4]
    simp
theorem range_getD (cs : List Int) : (List.range cs.length).map (fun i => chrS (cs.getD i 0)) = cs.map chrS := by
  apply List.ext_getElem
  · simp
  · intro i h1 h2
    simp only [List.length_map] at h2
    simp [List.getD_eq_getElem?_getD, List.getElem?_eq_getElem h2]
end Mine
end
section
open PySem PySem.W PyProof.Rows
set_option Elab.async false
set_option maxRecDepth 100000
set_option maxHeartbeats 4000000
set_option rowWalk.seconds 0
namespace Mine

theorem chars_len : ∀ cs : List Int, ((cs.map chrS).map (·.length)).sum = cs.length
  | [] => rfl
  | c :: r => by
    rw [List.map_cons, List.map_cons, List.sum_cons, chars_len r, List.length_cons]
    show 1 + r.length = _
    (first | lia | omega)
theorem byte_code {ks : List Int} {i : Nat} {c : UInt8} (h : (byteArr (ks.map code))[i]? = some c) : (c.toNat : Int) = (ks.map code).getD i 0 := by
  unfold byteArr at h
  rw [List.getElem?_toArray, List.getElem?_map] at h
  rw [List.getD_eq_getElem?_getD]
  cases hq : (ks.map code)[i]? with
  | none => rw [hq] at h; cases h
  | some z =>
    rw [hq] at h
    cases h
    rw [List.getElem?_map] at hq
    cases hk : ks[i]? with
    | none => rw [hk] at hq; cases hq
    | some y =>
      rw [hk] at hq
      cases hq
      show (((code y).toNat.toUInt8).toNat : Int) = code y
      rw [Nat.toUInt8_eq, UInt8.toNat_ofNat']
      have := (b64L.getD y.toNat 0).toNat_lt
      unfold code
      (first | lia | omega)
theorem text_call {w : World} {p : Program} {loose : List Str} {mean : ExcName → Option Value} {mg mb : Str → Option Value} {k : Nat} {x f : Int} {tx tf : Tok}
    (hx0 : 0 ≤ x) (hxb : Builtin.Int.intBits x ≤ 24 * k) (hk : k ≤ 20) (hf : f.fdiv 2 * 3 = ((3 * k : Nat) : Int))
    {dp un : Nat} {gd : Option (List Code)} {cn : Str} {cs : Scope} {a : Addr} {ccd : Value} {cl : List (Str × Addr)} {outer : List Env} {A₀ : Around} {base h₀ : Heap} {L : Addr} {m : Str → Option Value} {s : Shared} {Q E : Value → Shared → Prop}
    {news : List (Addr × Obj)}
    (B : Below A₀ base outer h₀) (F : Fr h₀ L s.heap m) (X : (hd47.heap_39 w.params).In h₀) (N : News h₀ L s.heap news) (T : Top p loose mean mg mb h₀) (hcs : cs.kind = .function)
    (hR : TabReady 37 35 4 (inQ "_int2digits") news)
    (hdp : dp + 130 < recursionLimit) (hun : un + 1000 < cLine)
    (hret : ∀ t h' tk' news', TabStep 37 35 4 (inQ "_int2digits") news news' → Fr h₀ L h' m → News h₀ L h' news' → Q (.str (textOf ((be 6 x (4 * k)).map code)) t) { s with heap := h', toks := tk' }) :
    wpAny (model PySem.Challenge.rw_of0047_01.row.prog w) (ktrTop dp un gd cn cs L a ccd cl outer) (call (.ref 152) [.int x tx, .int f tf]) Q E s := by
  revert X
  k_fill
  intro X
  refine wpAny_call ?_
  k_dflt cell_enter
  w_top on
  w_on
  k_with_none
  k_with "M" => (first | exact List.mem_cons_self | assumption | (refine' List.mem_cons_of_mem _ ?_; k_mem))
  k_with "U" => exact upd_of_updF (by assumption)
  k_with "A" => (first | with_reducible assumption | (refine all_ne_of_lt (by assumption) ?_; omega) | (refine all_ne_upd (by assumption) (by assumption) ?_; omega))
  k_with "execs cons" => ((with_reducible refine wpAny_execs_cons ?_); (try dsimp only); (try ((refine toks_gen ?_); intro _)))
  k_with "ite" => (first | refine ite_pos (by first | assumption | (simp only [beq_iff_eq, bne_iff_ne, decide_eq_true_eq]; (first | lia | omega))) ?_ | refine ite_neg (by first | assumption | (simp only [beq_iff_eq, bne_iff_ne, decide_eq_true_eq]; (first | lia | omega))) ?_)
  k_with "call type:bytes" => (k_dflt (refine m_bytes (by exact rfl) (by k_asm) (by k_asm) (by k_mem) (by with_reducible assumption) (by with_reducible assumption) (by (first | lia | omega)) ?_); intro _ _ _ _ _)
  k_with "call ref" => ((with_reducible show wpAny _ _ (call (Value.ref 147) _) _ _ _); k_dflt (refine filled_call' (by with_reducible assumption) (by with_reducible assumption) (by with_reducible assumption) (by with_reducible assumption) (by with_reducible assumption) (by with_reducible assumption) (by with_reducible assumption) (by with_reducible assumption) (by with_reducible assumption) (by k_asm) (by k_asm) (by k_asm) (by k_asm) (by k_asm) (by exact rfl) (by with_reducible assumption) (by (simp only [Around.deeper] at *; (first | lia | omega))) (by (simp only [Around.deeper] at *; (first | lia | omega))) ?_); intro _ _ _ _ _ _ _ _ _ _ _; (try dsimp only); (try k_fold))
  k_with "call ref" => ((with_reducible show wpAny _ _ (call (Value.ref 93) _) _ _ _); k_dflt (refine b64_call (by with_reducible assumption) (by with_reducible assumption) (by k_asm) (by k_asm) (by k_asm) (by k_asm) (by k_asm) (by exact rfl) (by (simp only [Around.deeper] at *; (first | lia | omega))) (by (simp only [Around.deeper] at *; (first | lia | omega))) ?_); intro _ _ _ _ _; (try dsimp only); (try k_fold))
  k_with "call builtin:chr" => (k_dflt (refine chr_of_range (by assumption) (by assumption) ?_))
  k_with "call builtin:str.join" => (k_dflt (refine m_join (by k_asm) (by k_mem) (by with_reducible assumption) (by assumption) ?_); intro _ _)
  have h8c : (8 : Int) = ((8 : Nat) : Int) := rfl
  have h81 : 1 ≤ 8 := by decide
  have h82 : 8 ≤ 200 := by decide
  have hxb2 : Builtin.Int.intBits x ≤ 2000 := by (first | lia | omega)
  have hc : cnt 8 x ≤ 3 * k := cnt_le h81 (by (first | lia | omega))
  have hc1 : cnt 8 x ≤ 100 := by (first | lia | omega)
  have hc2 : 3 * k ≤ 100 := by (first | lia | omega)
  have hfr : ∀ n ∈ fill 8 x (3 * k), 0 ≤ n ∧ n < 256 := fill_range h81 hx0 hc
  have hfl : (fill 8 x (3 * k)).length = 3 * k := by rw [fill_be h81 hx0 hc, be_length]
  have hbs : (byteArr (fill 8 x (3 * k))).size ≤ 300 := by rw [byteArr_size]; (first | lia | omega)
  have hbf : bfold (octs (byteArr (fill 8 x (3 * k)))) = (0, 0, be 6 x (4 * k)) := by rw [octs_bytes hfr, fill_be h81 hx0 hc, bfold_be]
  have hb3 : (bfold (octs (byteArr (fill 8 x (3 * k))))).1 = 0 := by rw [hbf]
  have hcl : ((bfold (octs (byteArr (fill 8 x (3 * k))))).2.2.map code).length = 4 * k := by rw [hbf, List.length_map, be_length]
  iterate 7 walk1
  k_dflt (refine' comp_bytes (hs := by intro _; rfl) (R := fun i y => ∃ t, y = .str (chrS (((bfold (octs (byteArr (fill 8 x (3 * k))))).2.2.map code).getD i 0)) t) ?cF ?c1 ?c2 ?c3 ?c4 ?c5 ?_; (case cF => k_asm); (case c1 => exact rfl); (case c2 => decide); (case c3 => exact rfl); (case c4 => decide); (case c5 => exact rfl))
  repeat' (first | (k_unfold; (try dsimp only)) | (k_end; wrow_close) | (walk1; (try dsimp only)) | (dsimp only; walk1) | (leave1; walk_say "STEP leave1"; try dsimp only) | fail "no step")
  rename_i tb9 F9 N9
  refine ⟨byteArr ((bfold (octs (byteArr (fill 8 x (3 * k))))).2.2.map code), tb9, _, _, rfl, rfl, F9, N9, ?z, ?el, ?fin⟩
  case z => rw [byteArr_size, hcl, sizeLine_eq]; (first | lia | omega)
  case el =>
    intro g i v I oI C oC D oD m₂ h tk E' hi hv hC hx F5 N5 off ne
    obtain ⟨c, u, hc5, rfl⟩ := hv
    have hc51 : (0 : Int) ≤ (c.toNat : Int) := by (first | lia | omega)
    have hc52 : (c.toNat : Int) ≤ 1114111 := by have := c.toNat_lt; (first | lia | omega)
    repeat' (first | (k_unfold; (try dsimp only)) | (k_end; wrow_close) | (walk1; (try dsimp only)) | (dsimp only; walk1) | (leave1; walk_say "STEP leave1"; try dsimp only) | fail "no step")
    refine ⟨_, _, rfl, F5, N5, tk, ?_⟩
    have hch := byte_code hc5
    rw [hch]
    rfl
  case fin =>
    intro D h' tk ys hr F5 N5 off
    have hSS := row_strs (f := fun i => chrS (((bfold (octs (byteArr (fill 8 x (3 * k))))).2.2.map code).getD i 0)) (fun _ _ h => h) hr
    have hrg : (List.range (byteArr ((bfold (octs (byteArr (fill 8 x (3 * k))))).2.2.map code)).size).map (fun i => chrS (((bfold (octs (byteArr (fill 8 x (3 * k))))).2.2.map code).getD i 0)) = ((be 6 x (4 * k)).map code).map chrS := by
      rw [byteArr_size, range_getD, hbf]
    rw [hrg] at hSS
    have hzz : ((((be 6 x (4 * k)).map code).map chrS).map (·.length)).sum ≤ 1000000 := by
      rw [chars_len, List.length_map, be_length]
      (first | lia | omega)
    (try dsimp only)
    (try k_fold)
    repeat' (first | (k_unfold; (try dsimp only)) | (k_end; wrow_close) | (walk1; (try dsimp only)) | (dsimp only; walk1) | (leave1; walk_say "STEP leave1"; try dsimp only) | fail "no step")
    rw [join_chars]
    exact hret _ _ _ _ (by assumption) (by assumption) (cb_drop (by assumption) fun q hq => List.mem_cons_of_mem _ (List.mem_cons_of_mem _ hq))
end Mine
end
section
open PySem PySem.W PyProof.Rows
set_option Elab.async false
set_option maxRecDepth 100000
set_option maxHeartbeats 4000000
set_option rowWalk.seconds 0
namespace Mine

noncomputable def rowS (u l : Int) : Str :=
  Str.ofString "-" ++
                (Txt.item (Str.ofString "-r") ((u.fmod 8).fdiv 4) ++
                  Txt.item (Str.ofString "-w") (((u.fmod 8).fdiv 2).fmod 2)) ++
              Txt.item (Str.ofString "-xSs") ((u.fmod 8).fmod 2 + 2 * ((u.fdiv 8).fdiv (2 ^ (2 - 0 : Int).toNat)).fmod 2) ++
            (Txt.item (Str.ofString "-r") ((l.fdiv 8).fdiv 4) ++
              Txt.item (Str.ofString "-w") (((l.fdiv 8).fdiv 2).fmod 2)) ++
          Txt.item (Str.ofString "-xSs") ((l.fdiv 8).fmod 2 + 2 * ((u.fdiv 8).fdiv (2 ^ (2 - 1 : Int).toNat)).fmod 2) ++
        (Txt.item (Str.ofString "-r") ((l.fmod 8).fdiv 4) ++
          Txt.item (Str.ofString "-w") (((l.fmod 8).fdiv 2).fmod 2)) ++
      Txt.item (Str.ofString "-xTt") ((l.fmod 8).fmod 2 + 2 * ((u.fdiv 8).fdiv (2 ^ (2 - 2 : Int).toNat)).fmod 2)
theorem ix_r {f : Int} (h0 : 0 ≤ f) (h1 : f < 8) : -((2 : Nat) : Int) ≤ f.fdiv 4 ∧ f.fdiv 4 < ((2 : Nat) : Int) := by rw [Int.fdiv_eq_ediv_of_nonneg _ (by decide)]; omega
theorem ix_w (f : Int) : -((2 : Nat) : Int) ≤ (f.fdiv 2).fmod 2 ∧ (f.fdiv 2).fmod 2 < ((2 : Nat) : Int) := by rw [Int.fmod_eq_emod_of_nonneg _ (by decide)]; omega
theorem ix_x (f a : Int) : -((4 : Nat) : Int) ≤ f.fmod 2 + 2 * a.fmod 2 ∧ f.fmod 2 + 2 * a.fmod 2 < ((4 : Nat) : Int) := by rw [Int.fmod_eq_emod_of_nonneg _ (by decide), Int.fmod_eq_emod_of_nonneg _ (by decide)]; omega
theorem m8 (f : Int) : 0 ≤ f.fmod 8 ∧ f.fmod 8 < 8 := by rw [Int.fmod_eq_emod_of_nonneg _ (by decide)]; omega
theorem d8 {f : Int} (h0 : 0 ≤ f) (h1 : f < 64) : 0 ≤ f.fdiv 8 ∧ f.fdiv 8 < 8 := by rw [Int.fdiv_eq_ediv_of_nonneg _ (by decide)]; omega
theorem len_r : (Str.ofString "-r").length = 2 := by decide +kernel
theorem len_w : (Str.ofString "-w").length = 2 := by decide +kernel
theorem len_s : (Str.ofString "-xSs").length = 4 := by decide +kernel
theorem len_t : (Str.ofString "-xTt").length = 4 := by decide +kernel
noncomputable def rowB (k : Nat) : Stmt := nthS (forS (nthS (bodyS (topS 42)) 1)) k
noncomputable def xT (z : Int) : Str := if z = 2 then Str.ofString "-xTt" else Str.ofString "-xSs"
theorem len_x (z : Int) : (xT z).length = 4 := by unfold xT; by_cases h : z = 2 <;> simp only [h, if_true, if_false] <;> first | exact len_t | exact len_s
section
variable {prog : Program} {w : World} {A : Around} {E : Value → Shared → Prop} {s : Shared} {h₀ : Heap} {L D : Addr} {news : List (Addr × Obj)}
theorem m_pick {value slice : PySem.Expr} {z : Int} {t1 t2 t3 tz : Tok} {ep : Nat} {Q : Value → Shared → Prop} (N : News h₀ L s.heap news)
    (hm : (D, listOf #[.str (Str.ofString "-xSs") t1, .str (Str.ofString "-xSs") t2, .str (Str.ofString "-xTt") t3] ep) ∈ news) (h0 : 0 ≤ z) (h2 : z ≤ 2)
    (hs : subscripted slice false (.ref D) (.int z tz) = operate [.ref D, .int z tz] (getItem (.ref D) (.int z tz)))
    (h : ∀ t, Q (.str (xT z) t) s) : wpAny (model prog w) A (subscriptTail value slice (.ref D) (.int z tz)) Q E s := by
  have hl : s.heap.IsList D #[.str (Str.ofString "-xSs") t1, .str (Str.ofString "-xSs") t2, .str (Str.ofString "-xTt") t3] := ⟨_, (N _ hm).1, rfl, ep, rfl⟩
  have hx : ∃ t, (#[Value.str (Str.ofString "-xSs") t1, .str (Str.ofString "-xSs") t2, .str (Str.ofString "-xTt") t3] : Array Value)[z.toNat]? = some (.str (xT z) t) := by
    obtain rfl | rfl | rfl : z = 0 ∨ z = 1 ∨ z = 2 := by omega
    · exact ⟨t1, rfl⟩
    · exact ⟨t2, rfl⟩
    · exact ⟨t3, rfl⟩
  obtain ⟨t, hx⟩ := hx
  exact tail_any hl.typeIs slot_list_getitem.lookup (wpAny_getItem_list hl h0 (by omega) hx (h t)) hs
end
theorem row_end {h₀ h : Heap} {L : Addr} {m M : Str → Option Value} {v a : Value} {b : Option Value} (F : Fr h₀ L h fun y => if y = Str.ofString "row" then some v else if y = Str.ofString "row" then b else if y = Str.ofString "above" then some a else m y) (e : M = m) :
    Fr h₀ L h fun y => if y = Str.ofString "row" then some v else if y = Str.ofString "above" then some a else M y := by
  have e2 : (fun y => if y = Str.ofString "row" then some v else if y = Str.ofString "row" then b else if y = Str.ofString "above" then some a else m y) = fun y => if y = Str.ofString "row" then some v else if y = Str.ofString "above" then some a else M y := by
    funext y
    rw [e]
    by_cases h : y = Str.ofString "row"
    · rw [if_pos h, if_pos h]
    · rw [if_neg h, if_neg h, if_neg h]
  exact e2 ▸ F
theorem row_turn {w : World} {p : Program} {loose : List Str} {mean : ExcName → Option Value} {mg mb : Str → Option Value} {u z f : Int} {r : Str} {tu tz tf tr : Tok}
    {A : Around} {h₀ : Heap} {L : Addr} {m : Str → Option Value} {s : Shared} {news : List (Addr × Obj)} {Q : Flow → Shared → Prop} {E : Value → Shared → Prop}
    (X : (hd47.heap_39 w.params).In h₀) (T : Top p loose mean mg mb h₀) (F : Fr h₀ L s.heap m) (N : News h₀ L s.heap news)
    (m1 : m (Str.ofString "upper") = some (.int u tu)) (m2 : m (Str.ofString "row") = some (.str r tr)) (m3 : m (Str.ofString "place") = some (.int z tz)) (m4 : m (Str.ofString "figure") = some (.int f tf))
    (hz : 0 ≤ z ∧ z ≤ 2) (hr : r.length ≤ 100) (ha : 0 ≤ f ∧ f < 8)
    (hret : ∀ t1 t2 h' tk, Fr h₀ L h' (fun y => if y = Str.ofString "row" then some (.str (r ++ (Txt.item (Str.ofString "-r") (f.fdiv 4) ++ Txt.item (Str.ofString "-w") ((f.fdiv 2).fmod 2)) ++ Txt.item (xT z) (f.fmod 2 + 2 * ((u.fdiv 8).fdiv (2 ^ (2 - z).toNat)).fmod 2)) t1) else
      if y = Str.ofString "above" then some (.int (((u.fdiv 8).fdiv (2 ^ (2 - z).toNat)).fmod 2) t2) else m y) → News h₀ L h' news → Q .next { s with heap := h', toks := tk }) :
    wpAny (model PySem.Challenge.rw_of0047_01.row.prog w) (A.deeper (envOf (Str.ofString "_law_row") (scopeS (topS 42)) L 159 (.ref 158))) (execs [rowB 0, rowB 1, rowB 2] (envOf (Str.ofString "_law_row") (scopeS (topS 42)) L 159 (.ref 158))) Q E s := by
  have e : rowB 0 = rowB 0 := rfl
  conv at e => rhs; whnf
  have e1 : rowB 1 = rowB 1 := rfl
  conv at e1 => rhs; whnf
  have e3 : rowB 2 = rowB 2 := rfl
  conv at e3 => rhs; whnf
  have e2 : scopeS (topS 42) = scopeS (topS 42) := rfl
  conv at e2 => rhs; whnf
  obtain ⟨M, hM⟩ : ∃ M, M = m := ⟨m, rfl⟩
  rw [← hM] at hret
  rw [chain_cons m1, chain_cons m2, chain_cons m3, chain_cons m4] at F hM
  clear m1 m2 m3 m4
  rw [e, e1, e2, e3]
  clear e e1 e2 e3
  revert X
  k_fill
  intro X
  w_top on
  w_on
  k_with_none
  k_with "M" => (first | exact List.mem_cons_self | assumption | (refine' List.mem_cons_of_mem _ ?_; k_mem))
  k_with "U" => exact upd_of_updF (by assumption)
  k_with "A" => (first | with_reducible assumption | (refine all_ne_of_lt (by assumption) ?_; omega) | (refine all_ne_upd (by assumption) (by assumption) ?_; omega))
  k_with "execs cons" => ((with_reducible refine wpAny_execs_cons ?_); (try dsimp only); (try ((refine toks_gen ?_); intro _)))
  k_with "binaryOp Pow int int" => (refine pow_int_small (by with_reducible assumption) (by with_reducible assumption) (by decide) ?_)
  k_with "binaryOp Add str str" => (refine PyProof.Rows.add_str ?_ (Nat.le_of_ble_eq_true (by kernel_rfl)); intro _ _)
  k_with "inplaceOp Add str str" => (refine PyProof.Rows.iadd_str ?_ (by with_reducible assumption); intro _ _)
  k_with "subscriptTail" => ((with_reducible show wpAny _ _ (subscriptTail _ _ (Value.str _ _) (Value.int _ _)) _ _ _); (refine KXi.item (by with_reducible (first | exact len_r | exact len_w | exact len_x _)) (by with_reducible assumption) (by with_reducible assumption) (by decide) ?_); intro _)
  k_with "subscriptTail" => ((with_reducible show wpAny _ _ (subscriptTail _ _ (Value.ref _) (Value.int _ _)) _ _ _); (refine m_pick (by k_asm) (by k_mem) (by with_reducible assumption) (by with_reducible assumption) (by with_unfolding_all rfl) ?_); intro _)
  obtain ⟨hz3, hz4⟩ := hz
  obtain ⟨a1, a2⟩ := ix_r ha.1 ha.2
  obtain ⟨b1, b2⟩ := ix_w f
  obtain ⟨c1, c2⟩ := ix_x f ((u.fdiv 8).fdiv (2 ^ (2 - z).toNat))
  have hz1 : 0 ≤ 2 - z := by omega
  have hz2 : 2 - z ≤ 1000000 := by omega
  have hpw : (2 : Int) ^ (2 - z).toNat ≠ 0 := by exact Int.ne_of_gt (Int.pow_pos (by decide))
  have hsl : r.length + (Txt.item (Str.ofString "-r") (f.fdiv 4) ++ Txt.item (Str.ofString "-w") ((f.fdiv 2).fmod 2)).length ≤ sizeLine := by
    have : (Txt.item (Str.ofString "-r") (f.fdiv 4) ++ Txt.item (Str.ofString "-w") ((f.fdiv 2).fmod 2)).length = 2 := by kernel_rfl
    rw [this, sizeLine_eq]; omega
  have hsl2 : (r ++ (Txt.item (Str.ofString "-r") (f.fdiv 4) ++ Txt.item (Str.ofString "-w") ((f.fdiv 2).fmod 2))).length + (Txt.item (xT z) (f.fmod 2 + 2 * ((u.fdiv 8).fdiv (2 ^ (2 - z).toNat)).fmod 2)).length ≤ sizeLine := by
    have e1 : (Txt.item (Str.ofString "-r") (f.fdiv 4) ++ Txt.item (Str.ofString "-w") ((f.fdiv 2).fmod 2)).length = 2 := by kernel_rfl
    have e2 : (Txt.item (xT z) (f.fmod 2 + 2 * ((u.fdiv 8).fdiv (2 ^ (2 - z).toNat)).fmod 2)).length = 1 := by kernel_rfl
    rw [Str.length_append, e1, e2, sizeLine_eq]; omega
  repeat (first | (k_unfold; (try dsimp only)) | (walk1; (try dsimp only)) | (dsimp only; walk1))
  (with_reducible rename Fr _ _ _ _ => F9)
  exact hret _ _ _ _ (row_end F9 hM) (cb_drop (by with_reducible assumption) fun q hq => List.mem_cons_of_mem _ hq)
theorem row_call {w : World} {p : Program} {loose : List Str} {mean : ExcName → Option Value} {mg mb : Str → Option Value} {u l : Int} {tu tl : Tok}
    (hu0 : 0 ≤ u) (hu1 : u < 64) (hl0 : 0 ≤ l) (hl1 : l < 64)
    {dp un : Nat} {gd : Option (List Code)} {cn : Str} {cs : Scope} {a : Addr} {ccd : Value} {cl : List (Str × Addr)} {outer : List Env} {A₀ : Around} {base h₀ : Heap} {L : Addr} {m : Str → Option Value} {s : Shared} {Q E : Value → Shared → Prop}
    {news : List (Addr × Obj)}
    (B : Below A₀ base outer h₀) (F : Fr h₀ L s.heap m) (X : (hd47.heap_39 w.params).In h₀) (N : News h₀ L s.heap news) (T : Top p loose mean mg mb h₀) (hcs : cs.kind = .function)
    (hdp : dp + 30 < recursionLimit) (hun : un + 200 < cLine)
    (hret : ∀ t h' tk', Fr h₀ L h' m → News h₀ L h' news → Q (.str (rowS u l) t) { s with heap := h', toks := tk' }) :
    wpAny (model PySem.Challenge.rw_of0047_01.row.prog w) (ktrTop dp un gd cn cs L a ccd cl outer) (call (.ref 159) [.int u tu, .int l tl]) Q E s := by
  revert X
  k_fill
  intro X
  refine wpAny_call ?_
  k_dflt (refine' code_defG (news := []) ?k1 ?k2 ?k3 ?k4 ?k5 ?kA ?kF ?kK ?k6 ?k7 ?k8 ?k9 ?kB ?_ ?c2 ?c3 ?c4 ?c5; (case kA => exact rfl); (case kF => exact rfl); (case kK => assumption); (case k1 => k_asm); (case k2 => k_asm); (case k3 => k_asm); (case k4 => exact News.nil); (case k5 => k_asm); (case k6 => k_is); (case k7 => k_is); (case k8 => ktr_room); (case k9 => exact BindsTo.of_eq rfl); (case c5 => decide); (case kB => exact locs rfl); (case c2 => exact rfl); (case c3 => exact rfl); (case c4 => exact rfl); k_whole; intro g' L' h' FG' F' N' B' X' T' G'; (try dsimp only); (try k_lift B'); (try k_fold))
  have hN0 : ∀ p ∈ news, g'.get? p.1 = some p.2 := fun p hp => G' _ _ (N p hp).1 (by simp)
  have hN1 := fun p hp => (N p hp).2
  clear N G'
  w_top on
  w_on
  k_with_none
  k_with "M" => (first | exact List.mem_cons_self | assumption | (refine' List.mem_cons_of_mem _ ?_; k_mem))
  k_with "U" => exact upd_of_updF (by assumption)
  k_with "A" => (first | with_reducible assumption | (refine all_ne_of_lt (by assumption) ?_; omega) | (refine all_ne_upd (by assumption) (by assumption) ?_; omega))
  k_with "ite" => (first | refine ite_pos (by first | assumption | (simp only [beq_iff_eq, bne_iff_ne, decide_eq_true_eq]; (first | lia | omega))) ?_ | refine ite_neg (by first | assumption | (simp only [beq_iff_eq, bne_iff_ne, decide_eq_true_eq]; (first | lia | omega))) ?_)
  k_with "execs cons" => ((with_reducible refine wpAny_execs_cons ?_); (try dsimp only); (try ((refine toks_gen ?_); intro _)))
  k_with "execs cons" => ((with_reducible show wpAny _ _ (execs [Stmt.Assign _ _ _, Stmt.AugAssign _ _ _ _, Stmt.AugAssign _ _ _ _] _) _ _ _); k_dflt (refine row_turn (by k_asm) (by k_asm) (by k_asm) (by k_asm) rfl rfl rfl rfl (by decide) (Nat.le_of_ble_eq_true (by kernel_rfl)) (by with_reducible assumption) ?_); intro _ _ _ _ _ _; (try dsimp only); (try k_fold))
  have a1 := m8 u
  have a2 := d8 hl0 hl1
  have a3 := m8 l
  repeat (first | (k_unfold; (try dsimp only)) | (walk1; (try dsimp only)) | (dsimp only; walk1))
  rename_i Fz _ _ kF kN _ _
  exact hret _ _ _ kF (fun p hp => ⟨Fz.keep _ _ (hN0 p hp), hN1 p hp⟩)
end Mine
end
section
open PySem PySem.W PyProof.Rows
open AutoSeq1 (wpAny_loadPart')
set_option Elab.async false
set_option maxRecDepth 100000
namespace Mine
section
variable {prog : Program} {w : World} {A : Around} {E : Value → Shared → Prop} {s : Shared} {env : Env} {h₀ : Heap}
theorem next_tup {it l : Addr} {i : Nat} {items : Array Value} {x : Value} {Q : Value → Shared → Prop} (hit : s.heap.IsTupleIter it l i)
    (hl : s.heap.IsTuple l items) (hx : items[i]? = some x)
    (hQ : ∀ h', h'.IsTupleIter it l (i + 1) → Heap.SameBut it s.heap h' → Q x { s with heap := h' }) :
    wpAny (model prog w) A (Builtin.SmallTypes.nextOf (.ref it)) Q E s := by
  obtain ⟨o, ho, hc, hd⟩ := id hit
  obtain ⟨ol, hol, _, nl, hdl⟩ := hl
  unfold Builtin.SmallTypes.nextOf
  refine wpAny_bind (wpAny_callSpecial?_slot (name := Str.ofString "__next__") hit.typeIs F.slot_tuple_iterator_next
    (wpAny_call_entry F.slot_tuple_iterator_next hit.typeIs F.entry_tuple_iterator_next ?_ (F.args_tuple_iterator_next_1 _)))
  show wpAny _ _ (field (.ref it) 0 >>= _) _ _ s
  refine wpAny_bind (wpAny_field ho hd (x := .ref l) rfl ?_)
  show wpAny _ _ (if (Value.ref l == Value.none) = true then _ else _) _ _ s
  rw [if_neg (show ¬ ((Value.ref l == Value.none) = true) from Bool.false_ne_true)]
  show wpAny _ _ (field (.ref it) 1 >>= _) _ _ s
  refine wpAny_bind (wpAny_field ho hd (x := .int i 0) rfl ?_)
  show wpAny _ _ (seqItems? (.ref l) >>= _) _ _ s
  refine wpAny_bind (wpAny_seqItems hol hdl ?_)
  simp only [Int.toNat_natCast, hx]
  refine wpAny_bind (wpAny_setField ho hd (by simp) (wpAny_pure ⟨x, rfl, wpAny_pure (hQ _ ?_ (Heap.SameBut.update ..))⟩))
  exact ⟨_, Heap.get?_update_self _ ho (Obj.isFreed_of_fields (Obj.data_mapFields hd _)), (Obj.cls_mapFields ..).trans hc, by
    rw [Obj.data_mapFields hd]; simp [rawInt]⟩
theorem next_tup_end {it l : Addr} {i : Nat} {items : Array Value} {Q : Value → Shared → Prop} (hh : A.handled = none)
    (hit : s.heap.IsTupleIter it l i) (hl : s.heap.IsTuple l items) (hx : items[i]? = none)
    (hE : ∀ h' e, Heap.ExtBut it s.heap h' → (∃ o, h'.get? e = some o ∧ o.cls = .type "StopIteration") → E (.ref e) { s with heap := h' }) :
    wpAny (model prog w) A (Builtin.SmallTypes.nextOf (.ref it)) Q E s := by
  obtain ⟨o, ho, hc, hd⟩ := id hit
  obtain ⟨ol, hol, _, nl, hdl⟩ := hl
  unfold Builtin.SmallTypes.nextOf
  refine wpAny_bind (wpAny_callSpecial?_slot (name := Str.ofString "__next__") hit.typeIs F.slot_tuple_iterator_next
    (wpAny_call_entry F.slot_tuple_iterator_next hit.typeIs F.entry_tuple_iterator_next ?_ (F.args_tuple_iterator_next_1 _)))
  show wpAny _ _ (field (.ref it) 0 >>= _) _ _ s
  refine wpAny_bind (wpAny_field ho hd (x := .ref l) rfl ?_)
  show wpAny _ _ (if (Value.ref l == Value.none) = true then _ else _) _ _ s
  rw [if_neg (show ¬ ((Value.ref l == Value.none) = true) from Bool.false_ne_true)]
  show wpAny _ _ (field (.ref it) 1 >>= _) _ _ s
  refine wpAny_bind (wpAny_field ho hd (x := .int i 0) rfl ?_)
  show wpAny _ _ (seqItems? (.ref l) >>= _) _ _ s
  refine wpAny_bind (wpAny_seqItems hol hdl ?_)
  simp only [Int.toNat_natCast, hx]
  refine wpAny_bind (wpAny_rule (wpAny_bind (wpAny_setField ho hd (by simp) ?_)))
  show wpAny _ _ (newExc (.type "StopIteration") [] >>= _) _ _ _
  refine wpAny_bind ?_
  simp only [newExc, newTuple]
  refine wpAny_bind (wpAny_newObj_type ?_ (by size_fits))
  refine wpAny_bind (m := firstArgMember _ _) (wpAny_of_eq (a := Value.none) (by first | rfl | (simp only [firstArgMember]; rfl)) ?_)
  refine wpAny_newObj_type ?_ (by size_fits)
  simp only [raiseNew]
  refine wpAny_bind (wpAny_handled ?_)
  first | rw [show A.in1.handled = none from hh] | rw [hh]
  refine wpAny_bind (wpAny_pure (wpAny_throw ?_))
  exact hE _ _ (((Heap.SameBut.update ..).extBut.push _).push _) ⟨_, Heap.get?_push_size _ rfl, rfl⟩
end
theorem draws_tup {prog : Program} {w : World} {A : Around} (hh : A.handled = none) (it l : Addr) (hne : l ≠ it) (items : Array Value) :
    Draws prog w A it [it, l] items.size (fun i v => items[i]? = some v) (fun i h => h.IsTupleIter it l i ∧ h.IsTuple l items) where
  live := fun _ _ st => let ⟨o, ho, _⟩ := st.1; ⟨o, ho⟩
  frame := fun _ _ _ st hk => ⟨st.1.at fun o e => hk it (by simp) o e, st.2.at fun o e => hk l (by simp) o e⟩
  item := fun i s Q E hi st hQ => by
    refine next_tup st.1 st.2 (x := items[i]) (by simp [hi]) fun h' hit' hs' => ?_
    exact hQ _ h' s.toks (by simp [hi]) ⟨hit', st.2.extBut hs'.extBut hne⟩ hs'
  done := fun s Q E st hE => next_tup_end hh st.1 st.2 (by simp) hE
theorem enum_newT (l : Addr) (items : Array Value) (n : Nat) (dct : Option Addr) (sl : Array (Option Value)) :
    Meets (Builtin.«enumerate.__new__» ⟨[.type "enumerate", .ref l], []⟩) (fun _ R s => s.heap.get? l = some { cls := .type "tuple", dict := dct, data := .seq items n, slots := sl } ∧
      R (.ok (.ret (.ref (s.heap.push { cls := .type "tuple_iterator", data := .fields #[.ref l, .int 0 0] }).objs.size)))
        { s with heap := (s.heap.push { cls := .type "tuple_iterator", data := .fields #[.ref l, .int 0 0] }).push { cls := .type "enumerate", data := .fields #[.none, .bool false, .ref s.heap.objs.size, rawInt 0, .none, .none] } }) :=
  .of_wp fun prog w A R s h => by
    obtain ⟨hp, g, d, tk, os⟩ := s; obtain ⟨hl, h⟩ := h
    have hsub := sub_enumerate
    have hL : Heap.IsTuple (Shared.heap ⟨hp, g, d, tk, os⟩) l items := ⟨_, hl, rfl, n, rfl⟩
    wp_walk using wpAny_loadPart' hl
    refine wpAny_stack_any fun st => wpAny_pure ?_
    split
    · rename_i c _ _ _ _ _
      cases (c == Value.type "enumerate")
      · wp_walk using wpAny_loadPart' hl, wpAny_pyIter_tuple hL
        exact ⟨_, rfl, h⟩
      · wp_walk using wpAny_loadPart' hl, wpAny_pyIter_tuple hL
        exact ⟨_, rfl, h⟩
    · wp_walk using wpAny_loadPart' hl, wpAny_pyIter_tuple hL
      exact ⟨_, rfl, h⟩
section
variable {prog : Program} {w : World} {A : Around} {E : Value → Shared → Prop} {s : Shared}
theorem call_enumT {l : Addr} {items : Array Value} {Q : Value → Shared → Prop} (hL : s.heap.IsTuple l items)
    (h : ∀ h', IsEnum h' (s.heap.objs.size + 1) s.heap.objs.size 0 .none → h'.IsTupleIter s.heap.objs.size l 0 → h'.objs.size = s.heap.objs.size + 2 →
      (∀ b o, s.heap.get? b = some o → h'.get? b = some o) → Q (.ref (s.heap.objs.size + 1)) { s with heap := h' }) :
    wpAny (model prog w) A (call (.type "enumerate") [.ref l]) Q E s := by
  obtain ⟨⟨c, dct, dt, sl⟩, hl, hc, n, hd⟩ := hL
  replace hc : c = .type "tuple" := hc
  replace hd : dt = .seq items n := hd
  subst hc hd
  refine callType_new F.called_enumerate (by decide) (F.typeCall_enumerate_1 _) (F.newCall_enumerate_1 _) (fun obj => F.args_object_init_2 obj _) F.entry_enumerate_new
    (enum_newT l items n dct sl) ⟨hl, ?_⟩
  have hz : (s.heap.push { cls := .type "tuple_iterator", data := .fields #[.ref l, .int 0 0] }).objs.size = s.heap.objs.size + 1 := Heap.size_push ..
  show _ ∧ _
  rw [hz]
  have he : IsEnum ((s.heap.push { cls := .type "tuple_iterator", data := .fields #[.ref l, .int 0 0] }).push
      { cls := .type "enumerate", data := .fields #[.none, .bool false, .ref s.heap.objs.size, rawInt 0, .none, .none] }) (s.heap.objs.size + 1) s.heap.objs.size 0 .none := by
    have := Heap.get?_push_size (s.heap.push { cls := .type "tuple_iterator", data := .fields #[.ref l, .int 0 0] })
      (o := { cls := .type "enumerate", data := .fields #[.none, .bool false, .ref s.heap.objs.size, rawInt 0, .none, .none] }) rfl
    rw [hz] at this; exact this
  refine ⟨⟨_, he, rfl⟩, h _ he ⟨_, Heap.get?_push_of_some _ (Heap.get?_push_size _ rfl), rfl, rfl⟩ (by rw [Heap.size_push, hz]) fun b o x => Heap.get?_push_of_some _ (Heap.get?_push_of_some _ x)⟩
end
end Mine
end
section
open PySem PySem.W PyProof.Rows
set_option Elab.async false
set_option maxRecDepth 100000
namespace Mine
noncomputable def ownW (wr : List Addr) (f : Addr → Obj) : List (Addr × Obj) := wr.map fun b => (b, f b)
theorem mem_ownW {wr : List Addr} {f : Addr → Obj} {p : Addr × Obj} (h : p ∈ ownW wr f) : p.1 ∈ wr ∧ p.2 = f p.1 := by
  obtain ⟨b, hb, rfl⟩ := List.mem_map.mp h
  exact ⟨hb, rfl⟩
theorem ownW_mem {wr : List Addr} {f : Addr → Obj} {b : Addr} (h : b ∈ wr) : (b, f b) ∈ ownW wr f := List.mem_map.mpr ⟨b, h, rfl⟩
section
variable {prog : Program} {w : World} {A : Around} {E : Value → Shared → Prop} {s : Shared} {env : Env} {h₀ : Heap}
noncomputable def TurnEndW (h₀ : Heap) (L : Addr) (wr : List Addr) (f : Addr → Obj) (J : (Str → Option Value) → List (Addr × Obj) → Prop) (s : Shared) (Qn : Shared → Prop) (Qr : Value → Shared → Prop) (fl : Flow) (s₃ : Shared) : Prop :=
  match fl with
  | .brk => Qn s₃
  | .ret v => Qr v s₃
  | _ => ∃ h' tk' m₂ news₂, s₃ = { s with heap := h', toks := tk' } ∧ Fr h₀ L h' m₂ ∧ News h₀ L h' (ownW wr f ++ news₂) ∧ (∀ p ∈ news₂, p.1 ∉ wr) ∧ J m₂ news₂
theorem m_pairLoop {R : Result → Shared → Prop} {x1 x2 : Str} {p1 p2 pt : Pos} {k : Nat} {body orelse : List Stmt} {I : Addr} {fp wr : List Addr} {n : Nat} {P Md : Nat → Value → Heap → Prop} {St : Nat → Heap → Prop} {m : Str → Option Value} {news : List (Addr × Obj)}
    (hh : A.handled = none) (W : KTurns prog w A (.Tuple [.Name x1 p1, .Name x2 p2] k pt) I fp wr n P Md St)
    (hx1 : env.kindOf x1 = some .local) (hx2 : env.kindOf x2 = some .local) (hp : (env.scope.kind == .class || (env.scope.kind == .module && env.locals != env.globals)) = false)
    (J : Nat → (Str → Option Value) → List (Addr × Obj) → Prop) (S : Nat → Value → Value → Prop)
    (hS : ∀ i v h m, i < n → P i v h → Fr h₀ env.locals h m → ∃ T a b, v = .ref T ∧ h.IsTuple T #[a, b] ∧ S i a b)
    (hob : ∀ i h b, St i h → b ∈ wr → ∃ o, h.get? b = some o)
    (hfp : ∀ b ∈ fp, b ∈ wr ∨ (∃ o, ∀ i m news, J i m news → (b, o) ∈ news) ∨ ∃ o, h₀.get? b = some o)
    (hLf : env.locals ∉ fp) (hwr : ∀ b ∈ wr, h₀.get? b = none)
    (hst : St 0 s.heap) (F : Fr h₀ env.locals s.heap m) (N : News h₀ env.locals s.heap news) (hnw : ∀ p ∈ news, p.1 ∉ wr) (h0 : J 0 m news)
    (turn : ∀ i a b m₁ news₁ f h tk, i < n → S i a b → J i m₁ news₁ → (∀ p ∈ news₁, p.1 ∉ wr) → Fr h₀ env.locals h (fun y => if y = x2 then some b else if y = x1 then some a else m₁ y) → News h₀ env.locals h (ownW wr f ++ news₁) →
      wpAny (model prog w) A (execs body env) (TurnEndW h₀ env.locals wr f (J (i + 1)) s (fun s' => R (.ok .next) s') (fun v s' => R (.ok (.ret v)) s')) (fun _ _ => False) { s with heap := h, toks := tk })
    (done : ∀ h' tk m' news', J n m' news' → Fr h₀ env.locals h' m' → News h₀ env.locals h' news' → (∀ p ∈ news', p.1 ∉ wr) → wpAny (model prog w) A (execs orelse env) (fun f s₃ => R (.ok f) s₃) (fun _ _ => False) { s with heap := h', toks := tk }) :
    codeAny (model prog w) A (.forLoop (.Tuple [.Name x1 p1, .Name x2 p2] k pt) (.ref I) body orelse env) R s := by
  have hLw : env.locals ∉ wr := fun h => hLf (W.sub _ h)
  have old : ∀ b o, h₀.get? b = some o → b ∉ wr := fun b o e hb => by rw [hwr b hb] at e; cases e
  refine codeAny_forLoop_any
    (fun k s' => ∃ h' tk m' news' i, s' = { s with heap := h', toks := tk } ∧ St i h' ∧ Fr h₀ env.locals h' m' ∧ News h₀ env.locals h' news' ∧ (∀ p ∈ news', p.1 ∉ wr) ∧ J i m' news' ∧ i ≤ n ∧ k = n + 1 - i) ?_ (n + 1)
    ⟨s.heap, s.toks, m, news, 0, rfl, hst, F, N, hnw, h0, Nat.zero_le _, rfl⟩
  rintro k s' ⟨h', tk, m', news', i, rfl, hst', F', N', hnw', hJ, hi, rfl⟩
  have next : ∀ h₁ : Heap, (∀ b o, b ∉ wr → h'.get? b = some o → h₁.get? b = some o) → Fr h₀ env.locals h₁ m' ∧ News h₀ env.locals h₁ news' := fun h₁ hk₁ =>
    ⟨⟨F'.ns.at' fun o e => hk₁ _ o hLw e, fun b o e => hk₁ b o (old b o e) (F'.keep b o e), F'.above⟩, fun p hp => ⟨hk₁ _ _ (hnw' p hp) (N' p hp).1, (N' p hp).2⟩⟩
  by_cases hlt : i < n
  · refine W.item i _ _ _ hlt hst' fun v h₁ tk₁ hMd hk₁ => ?_
    refine W.go i v _ _ _ hMd fun h₂ hP hst₂ hk₂ => ?_
    obtain ⟨F₂, N₂⟩ := next h₂ fun b o hb x => hk₂ b o hb (hk₁ b o hb x)
    obtain ⟨T, a, b, rfl, hT, hSab⟩ := hS i v h₂ m' hlt hP F₂
    refine wpAny_assign_Tuple hh hT rfl rfl fun h₃ hx₃ => ?_
    replace hx₃ : Heap.ExtBut h₂.objs.size h₂ h₃ := hx₃
    have k₃ : ∀ b o, h₂.get? b = some o → h₃.get? b = some o := fun b o e => hx₃ b o (Nat.ne_of_lt (Heap.lt_size e)) e
    have F₃ : Fr h₀ env.locals h₃ m' := F₂.keeps k₃
    show wpAny _ A (do holding [b] (assign (.Name x1 p1) env a); do holding [] (assign (.Name x2 p2) env b); pure ()) _ _ _
    refine wpAny_bind (wpAny_holding (wpAny_assign_Name (wpAny_storeName_local hx1 F₃.ns (fun h₄ hn₄ hs₄ => ?_) hp)))
    replace hs₄ : Heap.SameBut env.locals h₃ h₄ := hs₄
    have F₄ := F₃.set hn₄ hs₄
    refine wpAny_bind (wpAny_holding (wpAny_assign_Name (wpAny_storeName_local hx2 F₄.ns (fun h₅ hn₅ hs₅ => wpAny_pure ?_) hp)))
    replace hs₅ : Heap.SameBut env.locals h₄ h₅ := hs₅
    have F₅ := F₄.set hn₅ hs₅
    have up : ∀ b o, b ≠ env.locals → h₂.get? b = some o → h₅.get? b = some o := fun b o hb e => (hs₅.2 b hb).trans ((hs₄.2 b hb).trans (k₃ b o e))
    have hst₅ : St (i + 1) h₅ := W.frame _ _ _ hst₂ fun b hb o e => up b o (fun q => hLf (q ▸ hb)) e
    let f : Addr → Obj := fun b => (h₅.get? b).getD (listOf #[] 0)
    have hf : ∀ b ∈ wr, h₅.get? b = some (f b) := fun b hb => by
      obtain ⟨o, ho⟩ := hob _ _ b hst₅ hb
      show _ = some ((h₅.get? b).getD _)
      rw [ho]; rfl
    have N₅ : News h₀ env.locals h₅ (ownW wr f ++ news') := fun p hp => by
      rcases List.mem_append.mp hp with hp | hp
      · obtain ⟨hb, e⟩ := mem_ownW hp
        exact ⟨by rw [e]; exact hf _ hb, fun q => hLw (q ▸ hb), hwr _ hb⟩
      · exact ⟨up _ _ (N₂ p hp).2.1 (N₂ p hp).1, (N₂ p hp).2⟩
    refine wpAny_mono (turn i a b m' news' f h₅ _ hlt hSab hJ hnw' F₅ N₅) (fun fl s₃ h₃ => ?_) fun _ _ e => e.elim
    have fin : (∃ h' tk' m₂ news₂, s₃ = { s with heap := h', toks := tk' } ∧ Fr h₀ env.locals h' m₂ ∧ News h₀ env.locals h' (ownW wr f ++ news₂) ∧ (∀ p ∈ news₂, p.1 ∉ wr) ∧ J (i + 1) m₂ news₂) →
        ∃ m, m < n + 1 - i ∧ ∃ h' tk m' news' i, s₃ = { s with heap := h', toks := tk } ∧ St i h' ∧ Fr h₀ env.locals h' m' ∧ News h₀ env.locals h' news' ∧ (∀ p ∈ news', p.1 ∉ wr) ∧ J i m' news' ∧ i ≤ n ∧ m = n + 1 - i := by
      rintro ⟨h₆, tk₆, m₂, news₂, rfl, F₆, N₆, ha₆, hJ₆⟩
      refine ⟨n + 1 - (i + 1), by (first | lia | omega), h₆, tk₆, m₂, news₂, i + 1, rfl, ?_, F₆, (fun p hp => N₆ p (List.mem_append_right _ hp)), ha₆, hJ₆, hlt, rfl⟩
      refine W.frame _ _ _ hst₅ fun b hb ob e => ?_
      rcases hfp b hb with hw | ⟨oo, hh⟩ | ⟨oo, hh⟩
      · have e2 := hf b hw
        rw [e] at e2
        rw [Option.some.inj e2]
        exact (N₆ _ (List.mem_append_left _ (ownW_mem hw))).1
      · have e2 := (N₅ (b, oo) (List.mem_append_right _ (hh _ _ _ hJ))).1
        rw [e] at e2
        rw [Option.some.inj e2]
        exact (N₆ (b, oo) (List.mem_append_right _ (hh _ _ _ hJ₆))).1
      · have e2 := F₅.keep b oo hh
        rw [e] at e2
        rw [Option.some.inj e2]
        exact F₆.keep b oo hh
    cases fl with
    | ret v => exact h₃
    | brk => exact h₃
    | cont => exact fin h₃
    | next => exact fin h₃
  · have hin : i = n := by (first | lia | omega)
    subst hin
    refine W.done _ _ _ hst' fun h₁ tk₁ hk₁ => ?_
    obtain ⟨F₁, N₁⟩ := next h₁ hk₁
    exact wpAny_mono (done h₁ tk₁ m' news' hJ F₁ N₁ hnw') (fun _ _ e => e) fun _ _ e => e.elim
theorem m_inner {R : Result → Shared → Prop} {x1 x2 : Str} {p1 p2 pt : Pos} {k : Nat} {body orelse : List Stmt} {tb : Addr} {its : List (Addr × Value × Value)} {m : Str → Option Value} {news : List (Addr × Obj)}
    (hh : A.handled = none) (hx1 : env.kindOf x1 = some .local) (hx2 : env.kindOf x2 = some .local) (hp : (env.scope.kind == .class || (env.scope.kind == .module && env.locals != env.globals)) = false)
    (J : Nat → (Str → Option Value) → List (Addr × Obj) → Prop)
    (hT : h₀.IsTuple tb (its.map fun q => Value.ref q.1).toArray) (hI : ∀ q ∈ its, h₀.IsTuple q.1 #[q.2.1, q.2.2])
    (F : Fr h₀ env.locals s.heap m) (N : News h₀ env.locals s.heap news) (h0 : J 0 m news)
    (turn : ∀ I i q m₁ news₁ o h tk, its[i]? = some q → J i m₁ news₁ → (∀ p ∈ news₁, p.1 ≠ I) → Fr h₀ env.locals h (fun y => if y = x2 then some q.2.2 else if y = x1 then some q.2.1 else m₁ y) → News h₀ env.locals h ((I, o) :: news₁) →
      wpAny (model prog w) A (execs body env) (TurnEnd h₀ env.locals I o (J (i + 1)) s (fun s' => R (.ok .next) s') (fun v s' => R (.ok (.ret v)) s')) (fun _ _ => False) { s with heap := h, toks := tk })
    (done : ∀ h' tk m' news', J its.length m' news' → Fr h₀ env.locals h' m' → News h₀ env.locals h' news' → wpAny (model prog w) A (execs orelse env) (fun f s₃ => R (.ok f) s₃) (fun _ _ => False) { s with heap := h', toks := tk }) :
    codeAny (model prog w) A (.forLoop (.Tuple [.Name x1 p1, .Name x2 p2] k pt) (.ref s.heap.objs.size) body orelse env) R { s with heap := s.heap.push { cls := .type "tuple_iterator", data := .fields #[.ref tb, .int 0 0] } } := by
  obtain ⟨ot, hot, hoc, nt, hod⟩ := hT
  have htb : s.heap.get? tb = some ot := F.keep _ _ hot
  have hT' : s.heap.IsTuple tb (its.map fun q => Value.ref q.1).toArray := ⟨ot, htb, hoc, nt, hod⟩
  have hlt : tb < s.heap.objs.size := Heap.lt_size htb
  have hne : tb ≠ s.heap.objs.size := Nat.ne_of_lt hlt
  have hLs : env.locals < s.heap.objs.size := F.ns.lt
  have hLt : env.locals ≠ tb := fun e => by
    have h1 := Heap.lt_size hot
    have h2 := F.above
    rw [e] at h2
    exact absurd h1 (Nat.not_lt.mpr h2)
  have hnew : h₀.get? s.heap.objs.size = none := ktu_new F (Nat.le_refl _)
  refine m_pairLoop hh (KTurns.ofWalks (Walks.tuple hh s.heap.objs.size tb hne (its.map fun q => Value.ref q.1).toArray) fun i v s Q E st q => letGo_tupleiter st.1 q) hx1 hx2 hp J
    (fun i a b => ∃ q, its[i]? = some q ∧ a = q.2.1 ∧ b = q.2.2) ?_ ?_ ?_ ?_ ?_ ?_ (F.push _) (fun p hp => ⟨Heap.get?_push_of_some _ (N p hp).1, (N p hp).2⟩) ?_ h0 ?_ ?_
  · intro i v h m' hi hP F'
    have hP' : (its.map fun q => Value.ref q.1)[i]? = some v := by simpa using hP
    rw [List.getElem?_map] at hP'
    cases hq : its[i]? with
    | none => rw [hq] at hP'; cases hP'
    | some q =>
      rw [hq] at hP'
      have e : v = .ref q.1 := (Option.some.inj hP').symm
      obtain ⟨oq, h1, h2⟩ := hI q (List.mem_of_getElem? hq)
      exact ⟨q.1, q.2.1, q.2.2, e, ⟨oq, F'.keep _ _ h1, h2⟩, q, rfl, rfl, rfl⟩
  · intro i h b st hb
    obtain ⟨o, ho, _⟩ := st.1
    rw [List.mem_singleton.mp hb]
    exact ⟨o, ho⟩
  · intro b hb
    have hb' : b = s.heap.objs.size ∨ b = tb := by simpa using hb
    rcases hb' with rfl | rfl
    · exact .inl (by simp)
    · exact .inr (.inr ⟨ot, hot⟩)
  · intro h
    have hb' : env.locals = s.heap.objs.size ∨ env.locals = tb := by simpa using h
    rcases hb' with e | e
    · exact Nat.ne_of_lt hLs e
    · exact hLt e
  · intro b hb
    rw [List.mem_singleton.mp hb]
    exact hnew
  · exact ⟨⟨_, Heap.get?_push_size _ rfl, rfl, rfl⟩, hT'.push _⟩
  · intro p hp h
    exact absurd (Heap.lt_size (N p hp).1) ((List.mem_singleton.mp h) ▸ Nat.lt_irrefl _)
  · rintro i a b m₁ news₁ f h tk hi ⟨q, hq, rfl, rfl⟩ hJ hn F₁ N₁
    refine wpAny_mono (turn _ i q m₁ news₁ (f s.heap.objs.size) h tk hq hJ (fun p hp e => hn p hp (by simp [e])) F₁ N₁) (fun fl s₃ h₃ => ?_) fun _ _ e => e
    cases fl with
    | ret v => exact h₃
    | brk => exact h₃
    | cont =>
      obtain ⟨h', tk', m₂, news₂, e, F₂, N₂, hn₂, hJ₂⟩ := h₃
      exact ⟨h', tk', m₂, news₂, e, F₂, N₂, fun p hp hw => hn₂ p hp (List.mem_singleton.mp hw), hJ₂⟩
    | next =>
      obtain ⟨h', tk', m₂, news₂, e, F₂, N₂, hn₂, hJ₂⟩ := h₃
      exact ⟨h', tk', m₂, news₂, e, F₂, N₂, fun p hp hw => hn₂ p hp (List.mem_singleton.mp hw), hJ₂⟩
  · intro h' tk m' news' hJ F' N' _
    have e : (its.map fun q => Value.ref q.1).toArray.size = its.length := by simp
    rw [e] at hJ
    exact done h' tk m' news' hJ F' N'
noncomputable def OutEnd (h₀ : Heap) (L e : Addr) (o1 o2 : Obj) (J : (Str → Option Value) → List (Addr × Obj) → Prop) (s : Shared) (fl : Flow) (s₃ : Shared) : Prop :=
  fl = .next ∧ ∃ h' tk' m₂ news₂, s₃ = { s with heap := h', toks := tk' } ∧ Fr h₀ L h' m₂ ∧ News h₀ L h' ((e + 1, o1) :: (e, o2) :: news₂) ∧ (∀ p ∈ news₂, p.1 ∉ [e + 1, e]) ∧ J m₂ news₂
theorem m_outer {R : Result → Shared → Prop} {x1 x2 : Str} {p1 p2 pt : Pos} {k : Nat} {body orelse : List Stmt} {tb e : Addr} {its : List Value} {m : Str → Option Value} {news : List (Addr × Obj)}
    (hh : A.handled = none) (hx1 : env.kindOf x1 = some .local) (hx2 : env.kindOf x2 = some .local) (hp : (env.scope.kind == .class || (env.scope.kind == .module && env.locals != env.globals)) = false)
    (J : Nat → (Str → Option Value) → List (Addr × Obj) → Prop)
    (hT : h₀.IsTuple tb its.toArray)
    (he : IsEnum s.heap (e + 1) e 0 .none) (hit : s.heap.IsTupleIter e tb 0) (he0 : h₀.get? e = none) (he1 : h₀.get? (e + 1) = none) (hte : tb < e) (heL : env.locals < e)
    (F : Fr h₀ env.locals s.heap m) (N : News h₀ env.locals s.heap news) (hne : ∀ p ∈ news, p.1 < e) (h0 : J 0 m news)
    (turn : ∀ i v t m₁ news₁ o1 o2 h tk, its[i]? = some v → J i m₁ news₁ → (∀ p ∈ news₁, p.1 ∉ [e + 1, e]) → Fr h₀ env.locals h (fun y => if y = x2 then some v else if y = x1 then some (.int (i : Nat) t) else m₁ y) → News h₀ env.locals h ((e + 1, o1) :: (e, o2) :: news₁) →
      wpAny (model prog w) A (execs body env) (OutEnd h₀ env.locals e o1 o2 (J (i + 1)) s) (fun _ _ => False) { s with heap := h, toks := tk })
    (done : ∀ h' tk m' news', J its.length m' news' → Fr h₀ env.locals h' m' → News h₀ env.locals h' news' → wpAny (model prog w) A (execs orelse env) (fun f s₃ => R (.ok f) s₃) (fun _ _ => False) { s with heap := h', toks := tk }) :
    codeAny (model prog w) A (.forLoop (.Tuple [.Name x1 p1, .Name x2 p2] k pt) (.ref (e + 1)) body orelse env) R s := by
  obtain ⟨ot, hot, hoc, nt, hod⟩ := hT
  have htb : s.heap.get? tb = some ot := F.keep _ _ hot
  have hT' : s.heap.IsTuple tb its.toArray := ⟨ot, htb, hoc, nt, hod⟩
  have D := draws_tup (prog := prog) (w := w) (A := A.in1) hh e tb (Nat.ne_of_lt hte) its.toArray
  have hee : e + 1 ≠ e := Nat.succ_ne_self _
  have hte1 : e + 1 ≠ tb := fun q => absurd hte (q ▸ Nat.not_lt.mpr (Nat.le_succ e))
  refine m_pairLoop hh (KTurns.ofWalksU (WalksT.enumerateD D (e + 1) hee (by simp [hee, hte1]) (by simp)).toU) hx1 hx2 hp J
    (fun i a b => ∃ t, a = .int (i : Nat) t ∧ its[i]? = some b) ?_ ?_ ?_ ?_ ?_ ?_ F N ?_ h0 ?_ ?_
  · rintro i v h m' hi ⟨T, vals, rfl, ⟨t, x, hx, rfl⟩, hTt⟩ F'
    exact ⟨T, _, _, rfl, hTt, t, rfl, by simpa using hx⟩
  · intro i h b st hb
    obtain ⟨⟨old, hE⟩, ⟨o, ho, _⟩, _⟩ := st
    have hb' : b = e + 1 ∨ b = e := by simpa using hb
    rcases hb' with rfl | rfl
    · exact ⟨_, hE⟩
    · exact ⟨o, ho⟩
  · intro b hb
    have hb' : b = e + 1 ∨ b = e ∨ b = tb := by simpa using hb
    rcases hb' with rfl | rfl | rfl
    · exact .inl (by simp)
    · exact .inl (by simp)
    · exact .inr (.inr ⟨ot, hot⟩)
  · intro h
    have hb' : env.locals = e + 1 ∨ env.locals = e ∨ env.locals = tb := by simpa using h
    rcases hb' with q | q | q
    · exact absurd heL (q ▸ Nat.not_lt.mpr (Nat.le_succ e))
    · exact Nat.ne_of_lt heL q
    · have h1 := Heap.lt_size hot
      have h2 := F.above
      rw [q] at h2
      exact absurd h1 (Nat.not_lt.mpr h2)
  · intro b hb
    have hb' : b = e + 1 ∨ b = e := by simpa using hb
    rcases hb' with rfl | rfl
    · exact he1
    · exact he0
  · exact ⟨⟨.none, he⟩, hit, hT'⟩
  · intro p hp h
    have hb' : p.1 = e + 1 ∨ p.1 = e := by simpa using h
    have := hne p hp
    rcases hb' with q | q
    · exact absurd this (q ▸ Nat.not_lt.mpr (Nat.le_succ e))
    · exact Nat.ne_of_lt this q
  · rintro i a b m₁ news₁ f h tk hi ⟨t, rfl, hq⟩ hJ hn F₁ N₁
    refine wpAny_mono (turn i b t m₁ news₁ (f (e + 1)) (f e) h tk hq hJ hn F₁ N₁) (fun fl s₃ h₃ => ?_) fun _ _ e => e
    obtain ⟨rfl, h₃⟩ := h₃
    exact h₃
  · intro h' tk m' news' hJ F' N' _
    have e : its.toArray.size = its.length := by simp
    rw [e] at hJ
    exact done h' tk m' news' hJ F' N'
end
end Mine
end
section
open PySem PySem.W PyProof.Rows
set_option Elab.async false
set_option maxRecDepth 100000
set_option maxHeartbeats 4000000
set_option rowWalk.seconds 0
namespace Mine
noncomputable def fmTab : List (Addr × List (Addr × Int × Nat × Nat × Nat)) := [
  (108, [(101, 40960, 340, 108, 368), (102, 49152, 342, 115, 369), (103, 32768, 336, 45, 370), (104, 24576, 334, 98, 371), (105, 16384, 330, 100, 372), (106, 8192, 332, 99, 373), (107, 4096, 338, 112, 374)]),
  (110, [(109, 256, 350, 114, 375)]),
  (112, [(111, 128, 352, 119, 376)]),
  (116, [(113, 2112, 377, 115, 378), (114, 2048, 344, 83, 379), (115, 64, 354, 120, 380)]),
  (118, [(117, 32, 356, 114, 381)]),
  (120, [(119, 16, 358, 119, 382)]),
  (124, [(121, 1032, 383, 115, 384), (122, 1024, 346, 83, 385), (123, 8, 360, 120, 386)]),
  (126, [(125, 4, 362, 114, 387)]),
  (128, [(127, 2, 364, 119, 388)]),
  (132, [(129, 513, 389, 116, 390), (130, 512, 348, 84, 391), (131, 1, 366, 120, 392)])]
noncomputable def vOf (q : Addr × Int × Nat × Nat × Nat) : Addr × Value × Value := (q.1, .int q.2.1 q.2.2.1, .str ⟨#[q.2.2.2.1]⟩ q.2.2.2.2)
theorem tupAt {K : Frag} {h₀ : Heap} {a : Addr} {xs : Array Value} (X : K.In h₀) (e : List.lookup a K = some { cls := .type "tuple", data := .seq xs 0 }) : h₀.IsTuple a xs := ⟨_, X _ _ e, rfl, 0, rfl⟩
theorem fm_tab {w : World} {h₀ : Heap} (X : (hd47.heap_39 w.params).In h₀) : h₀.IsTuple 133 (fmTab.map fun p => Value.ref p.1).toArray ∧
    ∀ p ∈ fmTab, h₀.IsTuple p.1 ((p.2.map vOf).map fun q => Value.ref q.1).toArray ∧ ∀ q ∈ p.2.map vOf, h₀.IsTuple q.1 #[q.2.1, q.2.2] := by
  constructor
  · exact tupAt X (by kernel_rfl)
  · intro p hp
    simp only [fmTab, List.mem_cons, List.not_mem_nil, or_false] at hp
    rcases hp with rfl | rfl | rfl | rfl | rfl | rfl | rfl | rfl | rfl | rfl <;>
    · refine ⟨tupAt X (by kernel_rfl), fun q hq => ?_⟩
      simp only [List.map, List.mem_cons, List.not_mem_nil, or_false] at hq
      rcases hq with rfl | rfl | rfl | rfl | rfl | rfl | rfl <;> exact tupAt X (by kernel_rfl)
noncomputable def pick (t : Int → Bool) (d : Nat) : List (Addr × Int × Nat × Nat × Nat) → Nat
  | [] => d
  | q :: r => if t q.2.1 then q.2.2.2.1 else pick t d r
noncomputable def fmTest (md : Int) (i : Nat) (b : Int) : Bool := if i = 0 then decide (Builtin.bitAnd md 61440 = b) else decide (Builtin.bitAnd md b = b)
noncomputable def fmDef (i : Nat) : Nat := if i = 0 then 63 else 45
noncomputable def fmC (md : Int) (i : Nat) : Nat := pick (fmTest md i) (fmDef i) ((fmTab[i]?.map (·.2)).getD [])
noncomputable def fmSS (md : Int) (i : Nat) : List Str := (List.range i).map fun j => ⟨#[fmC md j]⟩
noncomputable def fmS (md : Int) : Str := Str.join ⟨#[]⟩ (fmSS md 10)
noncomputable def mF (M : Str → Option Value) (oi ot ob oc : Option Value) : Str → Option Value := fun y =>
  if y = Str.ofString "index" then oi else if y = Str.ofString "table" then ot else if y = Str.ofString "bit" then ob else if y = Str.ofString "char" then oc else M y
theorem mF_of {Y M : Str → Option Value} {oi ot ob oc : Option Value} (h1 : Y (Str.ofString "index") = oi) (h2 : Y (Str.ofString "table") = ot) (h3 : Y (Str.ofString "bit") = ob) (h4 : Y (Str.ofString "char") = oc)
    (h : ∀ y, y ≠ Str.ofString "index" → y ≠ Str.ofString "table" → y ≠ Str.ofString "bit" → y ≠ Str.ofString "char" → Y y = M y) : Y = mF M oi ot ob oc := by
  funext y
  unfold mF
  split
  · subst y; exact h1
  · split
    · subst y; exact h2
    · split
      · subst y; exact h3
      · split
        · subst y; exact h4
        · exact h y ‹_› ‹_› ‹_› ‹_›
theorem mF_out {M : Str → Option Value} {oi ot ob oc : Option Value} {v u : Value} :
    (fun y => if y = Str.ofString "table" then some v else if y = Str.ofString "index" then some u else mF M oi ot ob oc y) = mF M (some u) (some v) ob oc := by
  refine mF_of rfl rfl rfl rfl fun y h1 h2 h3 h4 => ?_
  simp only [mF, h1, h2, h3, h4, if_false]
theorem mF_in {M : Str → Option Value} {oi ot ob oc : Option Value} {v u : Value} :
    (fun y => if y = Str.ofString "char" then some v else if y = Str.ofString "bit" then some u else mF M oi ot ob oc y) = mF M oi ot (some u) (some v) := by
  refine mF_of rfl rfl rfl rfl fun y h1 h2 h3 h4 => ?_
  simp only [mF, h1, h2, h3, h4, if_false]
theorem strs_len {vs : List Value} {ss : List Str} (h : StrsAre vs ss) : vs.length = ss.length := by
  induction h with
  | nil => rfl
  | cons y t h ih => simp [ih]
theorem pick_at {t : Int → Bool} {d : Nat} {l : List (Addr × Int × Nat × Nat × Nat)} {j : Nat} {q : Addr × Int × Nat × Nat × Nat} (h : l[j]? = some q) :
    pick t d (l.drop j) = if t q.2.1 then q.2.2.2.1 else pick t d (l.drop (j + 1)) := by
  obtain ⟨hj, e⟩ := List.getElem?_eq_some_iff.mp h
  rw [List.drop_eq_getElem_cons hj, e]
  rfl
theorem ifmt_call {w : World} {p : Program} {loose : List Str} {mean : ExcName → Option Value} {mg mb : Str → Option Value} {md : Int} {tm : Tok}
    {dp un : Nat} {gd : Option (List Code)} {cn : Str} {cs : Scope} {a : Addr} {ccd : Value} {cl : List (Str × Addr)} {outer : List Env} {A₀ : Around} {base h₀ : Heap} {L : Addr} {m : Str → Option Value} {s : Shared} {Q E : Value → Shared → Prop}
    {news : List (Addr × Obj)}
    (B : Below A₀ base outer h₀) (F : Fr h₀ L s.heap m) (X : (hd47.heap_39 w.params).In h₀) (N : News h₀ L s.heap news) (T : Top p loose mean mg mb h₀) (hcs : cs.kind = .function)
    (hdp : dp + 11 < recursionLimit) (hun : un + 90 < cLine)
    (hret : ∀ t h' tk', Fr h₀ L h' m → News h₀ L h' news → Q (.int (Builtin.bitAnd md 61440) t) { s with heap := h', toks := tk' }) :
    wpAny (model PySem.Challenge.rw_of0047_01.row.prog w) (ktrTop dp un gd cn cs L a ccd cl outer) (call (.ref 100) [.int md tm]) Q E s := by
  revert X
  k_fill
  intro X
  refine wpAny_call ?_
  k_dflt cell_enter
  w_top on
  w_on
  k_with_none
  k_with "M" => (first | exact List.mem_cons_self | assumption | (refine' List.mem_cons_of_mem _ ?_; k_mem))
  k_with "U" => exact upd_of_updF (by assumption)
  k_with "A" => (first | with_reducible assumption | (refine all_ne_of_lt (by assumption) ?_; omega) | (refine all_ne_upd (by assumption) (by assumption) ?_; omega))
  k_with "ite" => (first | refine ite_pos (by first | assumption | (simp only [beq_iff_eq, bne_iff_ne, decide_eq_true_eq]; (first | lia | omega))) ?_ | refine ite_neg (by first | assumption | (simp only [beq_iff_eq, bne_iff_ne, decide_eq_true_eq]; (first | lia | omega))) ?_)
  k_with "execs cons" => ((with_reducible refine wpAny_execs_cons ?_); try dsimp only)
  k_with "exec For Tuple Call cons nil" => (k_dflt (refine wpAny_For ?_))
  k_with "exec For Tuple Name cons cons" => (k_dflt (refine wpAny_For ?_))
  k_with "call builtin:list.append" => (k_dflt (refine m_append (by k_asm) (by k_asm) (by k_upd) (by (first | lia | omega)) ?_); intro _ _ _)
  k_with "call builtin:str.join" => (k_dflt (refine m_join (by k_asm) (by k_mem) (by with_reducible assumption) (by with_reducible assumption) ?_); intro _ _)
  repeat' (first | (k_unfold; (try dsimp only)) | (k_end; wrow_close) | (walk1; (try dsimp only)) | (dsimp only; walk1) | (leave1; walk_say "STEP leave1"; try dsimp only) | fail "no step")
  exact hret _ _ _ (by assumption) (by assumption)
theorem fm_call {w : World} {p : Program} {loose : List Str} {mean : ExcName → Option Value} {mg mb : Str → Option Value} {md : Int} {tm : Tok}
    {dp un : Nat} {gd : Option (List Code)} {cn : Str} {cs : Scope} {a : Addr} {ccd : Value} {cl : List (Str × Addr)} {outer : List Env} {A₀ : Around} {base h₀ : Heap} {L : Addr} {m : Str → Option Value} {s : Shared} {Q E : Value → Shared → Prop}
    {news : List (Addr × Obj)}
    (B : Below A₀ base outer h₀) (F : Fr h₀ L s.heap m) (X : (hd47.heap_39 w.params).In h₀) (N : News h₀ L s.heap news) (T : Top p loose mean mg mb h₀) (hcs : cs.kind = .function)
    (hdp : dp + 30 < recursionLimit) (hun : un + 200 < cLine)
    (hret : ∀ t h' tk', Fr h₀ L h' m → News h₀ L h' news → Q (.str (fmS md) t) { s with heap := h', toks := tk' }) :
    wpAny (model PySem.Challenge.rw_of0047_01.row.prog w) (ktrTop dp un gd cn cs L a ccd cl outer) (call (.ref 140) [.int md tm]) Q E s := by
  revert X
  k_fill
  intro X
  refine wpAny_call ?_
  k_dflt cell_enter
  w_top on
  w_on
  k_with_none
  k_with "M" => (first | exact List.mem_cons_self | assumption | (refine' List.mem_cons_of_mem _ ?_; k_mem))
  k_with "U" => exact upd_of_updF (by assumption)
  k_with "A" => (first | with_reducible assumption | (refine all_ne_of_lt (by assumption) ?_; omega) | (refine all_ne_upd (by assumption) (by assumption) ?_; omega))
  k_with "ite" => (first | refine ite_pos (by first | assumption | (simp only [beq_iff_eq, bne_iff_ne, decide_eq_true_eq]; (first | lia | omega))) ?_ | refine ite_neg (by first | assumption | (simp only [beq_iff_eq, bne_iff_ne, decide_eq_true_eq]; (first | lia | omega))) ?_)
  k_with "execs cons" => ((with_reducible refine wpAny_execs_cons ?_); try dsimp only)
  k_with "exec For Tuple Call cons nil" => (k_dflt (refine wpAny_For ?_))
  k_with "exec For Tuple Name cons cons" => (k_dflt (refine wpAny_For ?_))
  k_with "call builtin:list.append" => (k_dflt (refine m_append (by k_asm) (by k_asm) (by k_upd) (by (first | lia | omega)) ?_); intro _ _ _)
  k_with "call builtin:str.join" => (k_dflt (refine m_join (by k_asm) (by k_mem) (by with_reducible assumption) (by with_reducible assumption) ?_); intro _ _)
  k_with "call ref" => ((with_reducible show wpAny _ _ (call (Value.ref 100) _) _ _ _); k_dflt (refine ifmt_call (by k_asm) (by k_asm) (by k_asm) (by k_asm) (by k_asm) (by exact rfl) (by (simp only [Around.deeper] at *; (first | lia | omega))) (by (simp only [Around.deeper] at *; (first | lia | omega))) ?_); intro _ _ _ _ _; (try dsimp only); (try k_fold))
  have h0z : (0 : Nat) ≤ 0 := Nat.le_refl _
  iterate 14 (first | (k_unfold; (try dsimp only)) | (walk1; (try dsimp only)) | (dsimp only; walk1))
  rename_i g1 L1 h1 FG1 B1 X1 T1 D1 h2 lD h3 F3 N3
  obtain ⟨hT0, hT1⟩ := fm_tab X1
  have hT0' : h3.IsTuple 133 (fmTab.map fun p => Value.ref p.1).toArray := by
    obtain ⟨o, e1, e2⟩ := hT0
    exact ⟨o, F3.keep _ _ e1, e2⟩
  refine call_enumT hT0' fun h4 hE hIt hsz hk => ?_
  dsimp only at hE hIt hsz hk
  refine wpAny_pyIter_enum hE ?_
  have hLlt : L1 < h3.objs.size := F3.ns.lt
  have hN3 : ∀ q ∈ (D1, listOf #[] 0) :: news, q.1 < h3.objs.size := fun q hq => Heap.lt_size (N3 q hq).1
  have he0 : g1.get? h3.objs.size = none := ktu_new F3 (Nat.le_refl _)
  have he1 : g1.get? (h3.objs.size + 1) = none := ktu_new F3 (Nat.le_succ _)
  have h133 : (133 : Nat) < h3.objs.size := by
    obtain ⟨o, e1, _⟩ := hT0'
    exact Heap.lt_size e1
  have hD1L : D1 ≠ L1 := (N3 _ List.mem_cons_self).2.1
  have F4 := F3.keeps hk
  have N4 : News g1 L1 h4 ((D1, listOf #[] 0) :: news) := fun q hq => ⟨hk _ _ (N3 q hq).1, (N3 q hq).2⟩
  have hDo : @LT.lt Nat _ D1 h3.objs.size := hN3 _ List.mem_cons_self
  generalize hev : h3.objs.size = ev at *
  clear hk hsz N3 F3 hT0'
  refine withM F4 ?_
  intro M hM FM
  dsimp only
  refine m_outer (m := M) (news := (D1, listOf #[] 0) :: news) (its := fmTab.map fun p => Value.ref p.1) (e := ev) (tb := 133) rfl rfl rfl rfl
    (fun i m₁ news₁ => ∃ oi ot ob oc vp ep, m₁ = mF M oi ot ob oc ∧ news₁ = (D1, listOf (List.toArray vp) ep) :: news ∧ StrsAre vp (fmSS md i)) hT0 hE hIt he0 he1 h133 hLlt FM N4 hN3 ?hJ0 ?turn ?done
  case hJ0 => exact ⟨none, none, none, none, [], 0, mF_of (by rw [hM]; rfl) (by rw [hM]; rfl) (by rw [hM]; rfl) (by rw [hM]; rfl) (fun _ _ _ _ _ => rfl), rfl, .nil⟩
  case done =>
    rintro h' tk m' news' ⟨oi, ot, ob, oc, vp, ep, rfl, rfl, hSp⟩ F6 N6
    have hlen : (fmTab.map fun p => Value.ref p.1).length = 10 := rfl
    rw [hlen] at hSp
    rw [hM] at F6
    unfold mF at F6
    refine wpAny_execs_nil ?_
    dsimp only
    (try k_fold)
    have hjz : ((fmSS md 10).map (·.length)).sum ≤ 1000000 := by simp [fmSS, List.range_succ, Str.length]
    repeat' (first | (k_unfold; (try dsimp only)) | (k_end; wrow_close) | (walk1; (try dsimp only)) | (dsimp only; walk1) | (leave1; walk_say "STEP leave1"; try dsimp only) | fail "no step")
    exact hret _ _ _ (by assumption) (cb_drop (by assumption) fun q hq => List.mem_cons_of_mem _ hq)
  case turn =>
    rintro i v t m₁ news₁ o1 o2 h tk hv ⟨oi, ot, ob, oc, vp, ep, rfl, rfl, hSp⟩ hn F5 N5
    rw [mF_out] at F5
    have hi : i < 10 := by
      have := (List.getElem?_eq_some_iff.mp hv).1
      simpa [fmTab] using this
    rw [List.getElem?_map] at hv
    obtain ⟨tb, hp, rfl⟩ : ∃ tb, fmTab[i]? = some tb ∧ Value.ref tb.1 = v := by
      cases hq : fmTab[i]? with
      | none => rw [hq] at hv; cases hv
      | some q => rw [hq] at hv; exact ⟨q, rfl, Option.some.inj hv⟩
    obtain ⟨hTa, hTb⟩ := hT1 tb (List.mem_of_getElem? hp)
    have hC : fmC md i = pick (fmTest md i) (fmDef i) tb.2 := by unfold fmC; rw [hp]; rfl
    have hvp : vp.length ≤ 100 := by rw [strs_len hSp]; unfold fmSS; rw [List.length_map, List.length_range]; (first | lia | omega)
    have hoff : ∀ o, ∀ q ∈ (D1, o) :: news, q.1 ∉ [ev + 1, ev] := fun o q hq hb => by
      have hb' : q.1 = ev + 1 ∨ q.1 = ev := by simpa using hb
      have hlt : @LT.lt Nat _ q.1 ev := by
        rcases List.mem_cons.mp hq with rfl | hq
        · exact hDo
        · exact hN3 q (List.mem_cons_of_mem _ hq)
      rcases hb' with e | e
      · exact absurd hlt (e ▸ Nat.not_lt.mpr (Nat.le_succ ev))
      · exact Nat.ne_of_lt hlt e
    have hstr : ∀ c tc, c = fmC md i → StrsAre (vp ++ [.str ⟨#[c]⟩ tc]) (fmSS md (i + 1)) := fun c tc e => by
      have e2 : fmSS md (i + 1) = fmSS md i ++ [⟨#[c]⟩] := by unfold fmSS; rw [List.range_succ, List.map_append, e]; rfl
      rw [e2]
      exact strs_snoc hSp
    refine withM F5 ?_
    intro M5 hM5 F5'
    clear F5
    have F6 := F5'
    rw [hM5, hM] at F6
    unfold mF at F6
    iterate 3 (first | (k_unfold; (try dsimp only)) | (walk1; (try dsimp only)) | (dsimp only; walk1))
    refine wpAny_pyIter_tuple (items := ((tb.2.map vOf).map fun q => Value.ref q.1).toArray) (by obtain ⟨o, e1, e2⟩ := hTa; exact ⟨o, F5'.keep _ _ e1, e2⟩) ?_
    refine m_inner (s := { s with heap := h, toks := _ }) (m := M5) (news := (ev + 1, o1) :: (ev, o2) :: (D1, listOf vp.toArray ep) :: news) (its := tb.2.map vOf) (tb := tb.1) rfl rfl rfl rfl
      (fun j m₂ news₂ => ∃ ob' oc', m₂ = mF M (some (.int (i : Nat) t)) (some (.ref tb.1)) ob' oc' ∧ news₂ = (ev + 1, o1) :: (ev, o2) :: (D1, listOf vp.toArray ep) :: news ∧ pick (fmTest md i) (fmDef i) (tb.2.drop j) = pick (fmTest md i) (fmDef i) tb.2) hTa hTb F5' N5 ?iJ ?iturn ?idone
    case iJ => exact ⟨ob, oc, hM5, rfl, rfl⟩
    case idone => 
      rintro h' tk m' news' ⟨ob', oc', rfl, rfl, hpk⟩ F7 N7
      have hend : pick (fmTest md i) (fmDef i) tb.2 = fmDef i := by
        rw [← hpk, List.drop_eq_nil_of_le (by rw [List.length_map]; exact Nat.le_refl _)]
        rfl
      rw [hM] at F7
      unfold mF at F7
      by_cases hz : i = 0
      · have hch : fmDef i = 63 := by unfold fmDef; rw [if_pos hz]
        repeat' (first | (k_unfold; (try dsimp only)) | (k_end; wrow_close) | (walk1; (try dsimp only)) | (dsimp only; walk1) | (leave1; walk_say "STEP leave1"; try dsimp only) | fail "no step")
        rename_i h9 F9 N9
        exact ⟨rfl, h9, _, _, _, rfl, F9, N9, hoff _, _, _, ob', oc', _, _, by rw [hM]; rfl, rfl, (by first | (rw [show Str.ofString "?" = ⟨#[63]⟩ from by decide +kernel]; exact hstr _ _ (by rw [hC, hend, hch])) | (rw [show Str.ofString "-" = ⟨#[45]⟩ from by decide +kernel]; exact hstr _ _ (by rw [hC, hend, hch])))⟩
      · have hch : fmDef i = 45 := by unfold fmDef; rw [if_neg hz]
        repeat' (first | (k_unfold; (try dsimp only)) | (k_end; wrow_close) | (walk1; (try dsimp only)) | (dsimp only; walk1) | (leave1; walk_say "STEP leave1"; try dsimp only) | fail "no step")
        rename_i h9 F9 N9
        exact ⟨rfl, h9, _, _, _, rfl, F9, N9, hoff _, _, _, ob', oc', _, _, by rw [hM]; rfl, rfl, (by first | (rw [show Str.ofString "?" = ⟨#[63]⟩ from by decide +kernel]; exact hstr _ _ (by rw [hC, hend, hch])) | (rw [show Str.ofString "-" = ⟨#[45]⟩ from by decide +kernel]; exact hstr _ _ (by rw [hC, hend, hch])))⟩
    case iturn => 
      rintro I j q m₁ news₁ o h' tk hq ⟨ob', oc', rfl, rfl, hpk⟩ hnI F7 N7
      rw [mF_in] at F7
      obtain ⟨q', hq', rfl⟩ : ∃ q', tb.2[j]? = some q' ∧ vOf q' = q := by
        rw [List.getElem?_map] at hq
        cases hc : tb.2[j]? with
        | none => rw [hc] at hq; cases hq
        | some r => rw [hc] at hq; exact ⟨r, rfl, Option.some.inj hq⟩
      rw [pick_at hq'] at hpk
      obtain ⟨qa, b, tb', c, tc⟩ := q'
      dsimp only [vOf] at F7 hpk
      have hID : I ≠ D1 := fun q => hnI (D1, listOf vp.toArray ep) (by simp) q.symm
      have F8 := F7
      rw [hM] at F8
      unfold mF at F8
      by_cases hz : i = 0
      · by_cases hit : Builtin.bitAnd md 61440 = b
        · have ht : fmTest md i b = true := by unfold fmTest; rw [if_pos hz]; exact decide_eq_true hit
          rw [ht, if_pos rfl] at hpk
          repeat' (first | (k_unfold; (try dsimp only)) | (k_end; wrow_close) | (walk1; (try dsimp only)) | (dsimp only; walk1) | (leave1; walk_say "STEP leave1"; try dsimp only) | fail "no step")
          rename_i h9 F9 N9
          refine (wpAny_execs_nil ?_ : wpAny _ _ _ _ _ _)
          exact ⟨rfl, h9, _, _, _, rfl, F9, (fun q hq => N9 q (List.mem_cons_of_mem _ hq)), hoff _, _, _, _, _, _, _, by rw [hM]; rfl, rfl, hstr _ _ (by rw [hC, ← hpk])⟩
        · have ht : fmTest md i b = false := by unfold fmTest; rw [if_pos hz]; exact decide_eq_false hit
          rw [ht, if_neg Bool.false_ne_true] at hpk
          repeat' (first | (k_unfold; (try dsimp only)) | (k_end; wrow_close) | (walk1; (try dsimp only)) | (dsimp only; walk1) | (leave1; walk_say "STEP leave1"; try dsimp only) | fail "no step")
          rename_i h9 tk9 F9 N9
          exact ⟨h9, _, _, _, rfl, F9, N9, hnI, _, _, by rw [hM]; rfl, rfl, hpk⟩
      · by_cases hit : Builtin.bitAnd md b = b
        · have ht : fmTest md i b = true := by unfold fmTest; rw [if_neg hz]; exact decide_eq_true hit
          rw [ht, if_pos rfl] at hpk
          repeat' (first | (k_unfold; (try dsimp only)) | (k_end; wrow_close) | (walk1; (try dsimp only)) | (dsimp only; walk1) | (leave1; walk_say "STEP leave1"; try dsimp only) | fail "no step")
          rename_i h9 F9 N9
          refine (wpAny_execs_nil ?_ : wpAny _ _ _ _ _ _)
          exact ⟨rfl, h9, _, _, _, rfl, F9, (fun q hq => N9 q (List.mem_cons_of_mem _ hq)), hoff _, _, _, _, _, _, _, by rw [hM]; rfl, rfl, hstr _ _ (by rw [hC, ← hpk])⟩
        · have ht : fmTest md i b = false := by unfold fmTest; rw [if_neg hz]; exact decide_eq_false hit
          rw [ht, if_neg Bool.false_ne_true] at hpk
          repeat' (first | (k_unfold; (try dsimp only)) | (k_end; wrow_close) | (walk1; (try dsimp only)) | (dsimp only; walk1) | (leave1; walk_say "STEP leave1"; try dsimp only) | fail "no step")
          exact ⟨_, _, _, _, rfl, F7, N7, hnI, _, _, rfl, rfl, hpk⟩
end Mine
end
section
open PySem PySem.W PyProof.Rows
set_option Elab.async false
set_option maxRecDepth 100000
namespace Mine
noncomputable def tN (N : Nat) (b : Int) : Bool := decide (N &&& b.toNat = b.toNat)
theorem pick_congr {t u : Int → Bool} {d : Nat} : ∀ {l : List (Addr × Int × Nat × Nat × Nat)}, (∀ q ∈ l, t q.2.1 = u q.2.1) → pick t d l = pick u d l
  | [], _ => rfl
  | q :: r, h => by
    unfold pick
    rw [h q List.mem_cons_self, pick_congr fun q hq => h q (List.mem_cons_of_mem _ hq)]
theorem tab_pos : ∀ p ∈ fmTab, ∀ q ∈ p.2, 0 ≤ q.2.1 := by decide
noncomputable def cN (N i : Nat) : Nat := pick (tN N) 45 ((fmTab[i]?.map (·.2)).getD [])
theorem fmC_nat {N i : Nat} (hi : i ≠ 0) : fmC (N : Int) i = cN N i := by
  unfold fmC cN fmDef
  rw [if_neg hi]
  cases h : fmTab[i]? with
  | none => rfl
  | some p =>
    refine pick_congr fun q hq => ?_
    have hq0 := tab_pos p (List.mem_of_getElem? h) q hq
    unfold fmTest tN
    rw [if_neg hi, bitAnd_pp (by omega) hq0, Int.toNat_natCast]
    congr 1
    exact propext ⟨fun e => by omega, fun e => by omega⟩
noncomputable def rN (n i : Nat) : Nat :=
  let f := if i ≤ 3 then n / 64 % 8 else if i ≤ 6 then n / 8 % 8 else n % 8
  let a := if i ≤ 3 then n / 512 / 4 % 2 else if i ≤ 6 then n / 512 / 2 % 2 else n / 512 % 2
  if i % 3 = 1 then (if f / 4 = 0 then 45 else 114)
  else if i % 3 = 2 then (if f / 2 % 2 = 0 then 45 else 119)
  else if f % 2 + 2 * a = 0 then 45 else if f % 2 + 2 * a = 1 then 120 else if f % 2 + 2 * a = 2 then (if i = 9 then 84 else 83) else (if i = 9 then 116 else 115)
theorem c1 : (List.range 4096).all (fun n => cN (32768 + n) 1 == rN n 1) = true := by decide +kernel
theorem c2 : (List.range 4096).all (fun n => cN (32768 + n) 2 == rN n 2) = true := by decide +kernel
theorem c3 : (List.range 4096).all (fun n => cN (32768 + n) 3 == rN n 3) = true := by decide +kernel
theorem c4 : (List.range 4096).all (fun n => cN (32768 + n) 4 == rN n 4) = true := by decide +kernel
theorem c5 : (List.range 4096).all (fun n => cN (32768 + n) 5 == rN n 5) = true := by decide +kernel
theorem c6 : (List.range 4096).all (fun n => cN (32768 + n) 6 == rN n 6) = true := by decide +kernel
theorem c7 : (List.range 4096).all (fun n => cN (32768 + n) 7 == rN n 7) = true := by decide +kernel
theorem c8 : (List.range 4096).all (fun n => cN (32768 + n) 8 == rN n 8) = true := by decide +kernel
theorem c9 : (List.range 4096).all (fun n => cN (32768 + n) 9 == rN n 9) = true := by decide +kernel
theorem c0 : (List.range 4096).all (fun n => (32768 + n) &&& 61440 == 32768) = true := by decide +kernel
theorem all_at {f g : Nat → Nat} (h : (List.range 4096).all (fun n => f n == g n) = true) {n : Nat} (hn : n < 4096) : f n = g n :=
  beq_iff_eq.mp (List.all_eq_true.mp h n (List.mem_range.mpr hn))
theorem fmC_zero {n : Nat} (hn : n < 4096) : fmC ((32768 + n : Nat) : Int) 0 = 45 := by
  have h := all_at c0 hn
  unfold fmC fmDef
  have e : fmTest ((32768 + n : Nat) : Int) 0 = fun b => decide ((32768 : Int) = b) := by
    funext b
    unfold fmTest
    rw [if_pos rfl, bitAnd_pp (by omega) (by decide), Int.toNat_natCast]
    have : ((32768 + n) &&& (61440 : Int).toNat : Nat) = 32768 := h
    rw [this]
    rfl
  rw [e]
  decide
theorem fmS_nat {n : Nat} (hn : n < 4096) : fmS ((32768 + n : Nat) : Int) = ⟨#[45, rN n 1, rN n 2, rN n 3, rN n 4, rN n 5, rN n 6, rN n 7, rN n 8, rN n 9]⟩ := by
  have e : fmSS ((32768 + n : Nat) : Int) 10 = ([45, rN n 1, rN n 2, rN n 3, rN n 4, rN n 5, rN n 6, rN n 7, rN n 8, rN n 9].map (fun c : Nat => (c : Int))).map chrS := by
    unfold fmSS
    simp only [show List.range 10 = [0, 1, 2, 3, 4, 5, 6, 7, 8, 9] from rfl, List.map, chrS, Int.toNat_natCast]
    rw [fmC_zero hn, fmC_nat (by decide), fmC_nat (by decide), fmC_nat (by decide), fmC_nat (by decide), fmC_nat (by decide), fmC_nat (by decide), fmC_nat (by decide), fmC_nat (by decide), fmC_nat (by decide),
      all_at c1 hn, all_at c2 hn, all_at c3 hn, all_at c4 hn, all_at c5 hn, all_at c6 hn, all_at c7 hn, all_at c8 hn, all_at c9 hn]
  unfold fmS
  rw [e, join_chars]
  rfl
theorem item_rN {k : Int} (j : Nat) (h : k = j) (hj : j < 2) : Txt.item (Str.ofString "-r") k = ⟨#[if j = 0 then 45 else 114]⟩ := by
  subst h
  have hj' : j = 0 ∨ j = 1 := by omega
  rcases hj' with rfl | rfl <;> decide +kernel
theorem item_wN {k : Int} (j : Nat) (h : k = j) (hj : j < 2) : Txt.item (Str.ofString "-w") k = ⟨#[if j = 0 then 45 else 119]⟩ := by
  subst h
  have hj' : j = 0 ∨ j = 1 := by omega
  rcases hj' with rfl | rfl <;> decide +kernel
theorem item_sN {k : Int} (j : Nat) (h : k = j) (hj : j < 4) : Txt.item (Str.ofString "-xSs") k = ⟨#[if j = 0 then 45 else if j = 1 then 120 else if j = 2 then 83 else 115]⟩ := by
  subst h
  have hj' : j = 0 ∨ j = 1 ∨ j = 2 ∨ j = 3 := by omega
  rcases hj' with rfl | rfl | rfl | rfl <;> decide +kernel
theorem item_tN {k : Int} (j : Nat) (h : k = j) (hj : j < 4) : Txt.item (Str.ofString "-xTt") k = ⟨#[if j = 0 then 45 else if j = 1 then 120 else if j = 2 then 84 else 116]⟩ := by
  subst h
  have hj' : j = 0 ∨ j = 1 ∨ j = 2 ∨ j = 3 := by omega
  rcases hj' with rfl | rfl | rfl | rfl <;> decide +kernel
theorem lt84 (m : Nat) : m % 8 / 4 < 2 := by omega
theorem lt22 (a b : Nat) : a % 2 + 2 * (b % 2) < 4 := by omega
theorem rowS_nat {n : Nat} (hn : n < 4096) : rowS ((n / 64 : Nat) : Int) ((n % 64 : Nat) : Int) = ⟨#[45, rN n 1, rN n 2, rN n 3, rN n 4, rN n 5, rN n 6, rN n 7, rN n 8, rN n 9]⟩ := by
  unfold rowS
  simp only [Int.fdiv_eq_ediv_of_nonneg _ (show (0 : Int) ≤ 8 by decide), Int.fdiv_eq_ediv_of_nonneg _ (show (0 : Int) ≤ 4 by decide), Int.fdiv_eq_ediv_of_nonneg _ (show (0 : Int) ≤ 2 by decide),
    Int.fmod_eq_emod_of_nonneg _ (show (0 : Int) ≤ 8 by decide), Int.fmod_eq_emod_of_nonneg _ (show (0 : Int) ≤ 2 by decide),
    show (2 : Int) ^ (2 - 0 : Int).toNat = 4 from rfl, show (2 : Int) ^ (2 - 1 : Int).toNat = 2 from rfl, show (2 : Int) ^ (2 - 2 : Int).toNat = 1 from rfl, Int.fdiv_eq_ediv_of_nonneg _ (show (0 : Int) ≤ 1 by decide)]
  have a1 : n % 64 / 8 = n / 8 % 8 := by omega
  have a2 : n % 64 % 8 = n % 8 := by omega
  have a3 : n / 64 / 8 = n / 512 := by omega
  rw [item_rN (k := ((n / 64 : Nat) : Int) % 8 / 4) (n / 64 % 8 / 4) rfl (lt84 _), item_wN (k := ((n / 64 : Nat) : Int) % 8 / 2 % 2) (n / 64 % 8 / 2 % 2) rfl (Nat.mod_lt _ (by decide)), item_sN (k := ((n / 64 : Nat) : Int) % 8 % 2 + 2 * (((n / 64 : Nat) : Int) / 8 / 4 % 2)) (n / 64 % 8 % 2 + 2 * (n / 64 / 8 / 4 % 2)) rfl (lt22 _ _),
    item_rN (k := ((n % 64 : Nat) : Int) / 8 / 4) (n % 64 / 8 / 4) rfl (a1 ▸ lt84 _), item_wN (k := ((n % 64 : Nat) : Int) / 8 / 2 % 2) (n % 64 / 8 / 2 % 2) rfl (Nat.mod_lt _ (by decide)), item_sN (k := ((n % 64 : Nat) : Int) / 8 % 2 + 2 * (((n / 64 : Nat) : Int) / 8 / 2 % 2)) (n % 64 / 8 % 2 + 2 * (n / 64 / 8 / 2 % 2)) rfl (lt22 _ _),
    item_rN (k := ((n % 64 : Nat) : Int) % 8 / 4) (n % 64 % 8 / 4) rfl (lt84 _), item_wN (k := ((n % 64 : Nat) : Int) % 8 / 2 % 2) (n % 64 % 8 / 2 % 2) rfl (Nat.mod_lt _ (by decide)), item_tN (k := ((n % 64 : Nat) : Int) % 8 % 2 + 2 * (((n / 64 : Nat) : Int) / 8 / 1 % 2)) (n % 64 % 8 % 2 + 2 * (n / 64 / 8 / 1 % 2)) rfl (lt22 _ _)]
  rw [a1, a2, a3, Nat.div_one]
  have e : Str.ofString "-" = ⟨#[45]⟩ := by decide +kernel
  rw [e]
  rfl
theorem fm_row {x : Int} (h0 : 0 ≤ x) (h1 : x < 4096) : fmS (32768 + x) = rowS (x.fdiv 64) (x.fmod 64) := by
  obtain ⟨n, rfl⟩ := Int.eq_ofNat_of_zero_le h0
  have hn : n < 4096 := by omega
  have e : (32768 : Int) + (n : Int) = ((32768 + n : Nat) : Int) := by omega
  have e1 : ((n : Nat) : Int).fdiv 64 = ((n / 64 : Nat) : Int) := by rw [Int.fdiv_eq_ediv_of_nonneg _ (by decide)]; omega
  have e2 : ((n : Nat) : Int).fmod 64 = ((n % 64 : Nat) : Int) := by rw [Int.fmod_eq_emod_of_nonneg _ (by decide)]; omega
  rw [e, e1, e2, fmS_nat hn, rowS_nat hn]
end Mine
end
section
open PySem PySem.W PyProof.Rows
set_option Elab.async false
set_option maxRecDepth 100000
set_option maxHeartbeats 8000000
set_option rowWalk.seconds 0
namespace Mine
theorem d2i_call' {w : World} {p : Program} {loose : List Str} {mean : ExcName → Option Value} {mg mb : Str → Option Value} {n : Nat} {nI : Int} {tn : Tok} {ns : List Int} {vs : List Value} {l : Addr} {ep : Nat}
    (hnI : nI = ((n : Nat) : Int)) (hI : IntsAre vs ns) (hns : ns ≠ []) (hn : n ≤ 200) (hlen : ns.length ≤ 100) (hsz : ∀ x ∈ ns, 0 ≤ x ∧ x < 2 ^ n)
    {dp un : Nat} {gd : Option (List Code)} {cn : Str} {cs : Scope} {a : Addr} {ccd : Value} {cl : List (Str × Addr)} {outer : List Env} {A₀ : Around} {base h₀ : Heap} {L : Addr} {m : Str → Option Value} {s : Shared} {Q E : Value → Shared → Prop}
    {news : List (Addr × Obj)}
    (B : Below A₀ base outer h₀) (F : Fr h₀ L s.heap m) (X : (hd47.heap_39 w.params).In h₀) (N : News h₀ L s.heap news) (T : Top p loose mean mg mb h₀) (hcs : cs.kind = .function)
    (hR : TabReady 44 50 4 (inQ "_digits2int") news)
    (mL : (l, listOf vs.toArray ep) ∈ news)
    (hdp : dp + 110 < recursionLimit) (hun : un + 900 < cLine)
    (hret : ∀ t h' tk' news', TabStep 44 50 4 (inQ "_digits2int") news news' → Fr h₀ L h' m → News h₀ L h' news' → Q (.int (valD n ns) t) { s with heap := h', toks := tk' }) :
    wpAny (model PySem.Challenge.rw_of0047_01.row.prog w) (ktrTop dp un gd cn cs L a ccd cl outer) (call (.ref 49) [.ref l, .int nI tn]) Q E s := by
  subst hnI
  exact d2i_call hI hns hn hlen hsz B F X N T hcs hR mL hdp hun hret
structure Held (P : Prop) : Prop where
  out : P
theorem step_keep {P : Addr} {li co : Int} {q : Str} {news news' : List (Addr × Obj)} (st : TabStep P li co q news news') {p : Addr × Obj} (hp : p ∈ news) (hne : p.1 ≠ P) : p ∈ news' := by
  cases st with
  | hit => exact hp
  | miss U => exact List.mem_cons_of_mem _ (updF_keeps U hp hne)
theorem step_hit {P : Addr} {li co : Int} {q : Str} {news news' : List (Addr × Obj)} (st : TabStep P li co q news news') : TabHit P li co q news' := by
  cases st with
  | hit a b c d => exact ⟨_, _, _, _, a, b, c, d⟩
  | miss U a b c => exact ⟨_, _, _, _, List.mem_cons_of_mem _ (updF_self U), List.mem_cons_self, b, c⟩
noncomputable abbrev RR (ns : List Int) : List Int := List.map (fun k' => k'.fmod 4096) (List.take ((((List.take 5 ns).length + (1 + 1 + 1 + 1 + 1) : Nat) : Int).fdiv 2 * 2).toNat (List.take 5 ns ++ [2500, 420, 1517, 3071, 64]))
noncomputable def kk (ns : List Int) : Nat := (min 5 ns.length + 5) / 2
theorem rr_len (ns : List Int) : (RR ns).length = 2 * kk ns := by
  unfold RR kk
  rw [List.length_map, List.length_take, List.length_append, List.length_take, Int.fdiv_eq_ediv_of_nonneg _ (by decide)]
  simp only [List.length_cons, List.length_nil]
  (first | lia | omega)
theorem kk_range (ns : List Int) : 2 ≤ kk ns ∧ kk ns ≤ 5 := by unfold kk; (first | lia | omega)
theorem rr_range (ns : List Int) : ∀ x ∈ RR ns, 0 ≤ x ∧ x < 4096 := by
  intro x hx
  obtain ⟨y, _, rfl⟩ := List.mem_map.mp hx
  show 0 ≤ y.fmod 4096 ∧ y.fmod 4096 < 4096
  rw [Int.fmod_eq_emod_of_nonneg _ (by decide)]
  (first | lia | omega)
theorem rr_ne (ns : List Int) : (RR ns).reverse ≠ [] := by
  intro h
  have := congrArg List.length h
  rw [List.length_reverse, rr_len] at this
  have := kk_range ns
  simp at *
  (first | lia | omega)
theorem rr_revlen (ns : List Int) : (RR ns).reverse.length ≤ 100 := by
  rw [List.length_reverse, rr_len]
  have := kk_range ns
  (first | lia | omega)
theorem rr_rev (ns : List Int) : ∀ x ∈ (RR ns).reverse, 0 ≤ x ∧ x < 2 ^ 12 := fun x hx => rr_range ns x (List.mem_reverse.mp hx)
end Mine
end
section
open PySem PySem.W PyProof.Rows
namespace Mine
theorem be_val (n : Nat) : ∀ ys : List Int, (∀ x ∈ ys, 0 ≤ x ∧ x < 2 ^ n) → be n (valD n ys) ys.length = ys.reverse
  | [], _ => rfl
  | y :: ys, h => by
    have h1 := h y (by simp)
    have ih := be_val n ys fun x hx => h x (by simp [hx])
    have e : valD n (y :: ys) = y + 2 ^ n * valD n ys := rfl
    have e1 : valD n (y :: ys) / 2 ^ n = valD n ys := by
      rw [e, Int.add_mul_ediv_left _ _ (pow_ne n), Int.ediv_eq_zero_of_lt h1.1 h1.2, Int.zero_add]
    have e2 : valD n (y :: ys) % 2 ^ n = y := by
      rw [e, Int.add_mul_emod_self_left, Int.emod_eq_of_lt h1.1 h1.2]
    show be n (valD n (y :: ys) / 2 ^ n) ys.length ++ [valD n (y :: ys) % 2 ^ n] = _
    rw [e1, e2, ih, List.reverse_cons]
theorem be_val_rev {n : Nat} {xs : List Int} (h : ∀ x ∈ xs, 0 ≤ x ∧ x < 2 ^ n) : be n (valD n xs.reverse) xs.length = xs := by
  have := be_val n xs.reverse fun x hx => h x (List.mem_reverse.mp hx)
  rwa [List.length_reverse, List.reverse_reverse] at this
noncomputable def pl (xs : List Int) : List Int := xs.flatMap fun d => [d.fdiv 64, d.fmod 64]
theorem pl_append (xs ys : List Int) : pl (xs ++ ys) = pl xs ++ pl ys := by simp [pl]
theorem pl_length : ∀ xs : List Int, (pl xs).length = 2 * xs.length
  | [] => rfl
  | x :: xs => by
    have := pl_length xs
    show (x.fdiv 64 :: x.fmod 64 :: pl xs).length = _
    simp only [List.length_cons]
    (first | lia | omega)
theorem be_pl : ∀ (c : Nat) (x : Int), be 6 x (2 * c) = pl (be 12 x c)
  | 0, _ => rfl
  | c + 1, x => by
    show be 6 (x / 2 ^ 6 / 2 ^ 6) (2 * c) ++ [x / 2 ^ 6 % 2 ^ 6] ++ [x % 2 ^ 6] = pl (be 12 (x / 2 ^ 12) c ++ [x % 2 ^ 12])
    rw [ediv_pow, be_pl c, pl_append]
    show _ = _ ++ [(x % 2 ^ 12).fdiv 64, (x % 2 ^ 12).fmod 64]
    rw [Int.fdiv_eq_ediv_of_nonneg _ (by decide), Int.fmod_eq_emod_of_nonneg _ (by decide), List.append_assoc]
    have h1 : x / 2 ^ 6 % 2 ^ 6 = x % 2 ^ 12 / 64 := by (first | lia | omega)
    have h2 : x % 2 ^ 6 = x % 2 ^ 12 % 64 := by (first | lia | omega)
    rw [h1, h2]
    rfl
theorem number_places {xs : List Int} {k : Nat} (hl : xs.length = 2 * k) (h : ∀ x ∈ xs, 0 ≤ x ∧ x < 4096) : be 6 (valD 12 xs.reverse) (4 * k) = pl xs := by
  have e := be_val_rev (n := 12) h
  rw [show 4 * k = 2 * (2 * k) by (first | lia | omega), be_pl, ← hl, e]
theorem pl_range {xs : List Int} (h : ∀ x ∈ xs, 0 ≤ x ∧ x < 4096) : ∀ d ∈ pl xs, 0 ≤ d ∧ d < 64 := by
  intro d hd
  obtain ⟨x, hx, hd⟩ := List.mem_flatMap.mp hd
  have := h x hx
  simp only [List.mem_cons, List.not_mem_nil, or_false] at hd
  rw [Int.fdiv_eq_ediv_of_nonneg _ (by decide), Int.fmod_eq_emod_of_nonneg _ (by decide)] at hd
  rcases hd with rfl | rfl <;> (first | lia | omega)
theorem pl_even : ∀ (xs : List Int) (i : Nat), (pl xs).getD (2 * i) 0 = (xs.getD i 0).fdiv 64
  | [], i => by simp [pl]
  | x :: xs, 0 => rfl
  | x :: xs, i + 1 => by
    show (x.fdiv 64 :: x.fmod 64 :: pl xs).getD (2 * i + 1 + 1) 0 = _
    rw [List.getD_cons_succ, List.getD_cons_succ, List.getD_cons_succ]
    exact pl_even xs i
theorem pl_odd : ∀ (xs : List Int) (i : Nat), (pl xs).getD (2 * i + 1) 0 = (xs.getD i 0).fmod 64
  | [], i => by simp [pl]
  | x :: xs, 0 => rfl
  | x :: xs, i + 1 => by
    show (x.fdiv 64 :: x.fmod 64 :: pl xs).getD (2 * i + 1 + 1 + 1) 0 = _
    rw [List.getD_cons_succ, List.getD_cons_succ, List.getD_cons_succ]
    exact pl_odd xs i
theorem parts_text {x : Int} {j k : Nat} (hj : j ≤ k) : textOf ((be 6 (x / 2 ^ (24 * j)) (4 * (k - j))).map code) ++ textOf ((be 6 (x % 2 ^ (24 * j)) (4 * j)).map code) = textOf ((be 6 x (4 * k)).map code) := by
  rw [textOf_append, ← List.map_append]
  have e1 := be_split 6 (4 * j) (4 * (k - j)) x
  have e2 := be_low 6 (4 * j) x
  rw [show 6 * (4 * j) = 24 * j by (first | lia | omega)] at e1 e2
  rw [e2, show 4 * (k - j) + 4 * j = 4 * k by (first | lia | omega)] at *
  rw [← e1]
theorem valD_pos {n : Nat} : ∀ {ys : List Int}, (∀ x ∈ ys, 0 ≤ x ∧ x < 2 ^ n) → (∃ x ∈ ys, 0 < x) → 0 < valD n ys
  | [], _, h => by obtain ⟨x, hx, _⟩ := h; cases hx
  | y :: ys, h, hp => by
    have h1 := h y (by simp)
    have hb := valD_bound n ys fun x hx => h x (by simp [hx])
    show 0 < y + 2 ^ n * valD n ys
    have hm : 0 ≤ 2 ^ n * valD n ys := Int.mul_nonneg (Int.le_of_lt (pow_pos' n)) hb.1
    obtain ⟨x, hx, hx0⟩ := hp
    rcases List.mem_cons.mp hx with rfl | hx
    · (first | lia | omega)
    · have ih := valD_pos (fun x hx => h x (by simp [hx])) ⟨x, hx, hx0⟩
      have := Int.mul_pos (pow_pos' n) ih
      (first | lia | omega)
theorem bits_div {x : Int} {a b : Nat} (h0 : 0 ≤ x) (h : x < 2 ^ (a + b)) : Builtin.Int.intBits (x / 2 ^ b) ≤ a := by
  refine bits_lt (Int.ediv_nonneg h0 (Int.le_of_lt (pow_pos' b))) (Int.ediv_lt_of_lt_mul (pow_pos' b) ?_)
  rwa [← Int.pow_add]
theorem bits_mod (x : Int) (b : Nat) : Builtin.Int.intBits (x % 2 ^ b) ≤ b := bits_lt (Int.emod_nonneg _ (pow_ne b)) (Int.emod_lt_of_pos _ (pow_pos' b))
end Mine
end
section
open PySem PySem.W PyProof.Rows
set_option Elab.async false
namespace Mine
section
variable {prog : Program} {w : World} {A : Around} {E : Value → Shared → Prop} {R : Result → Shared → Prop} {s : Shared}
noncomputable abbrev comp2 (elt : Expr) (x1 : Str) (p1 : Pos) (it1 : Expr) (x2 : Str) (p2 : Pos) (it2 : Expr) (scope : Scope) (pos : Pos) : Expr := .ListComp elt [⟨.Name x1 p1, it1, [], 0⟩, ⟨.Name x2 p2, it2, [], 0⟩] scope pos
theorem compTurn2_0 (elt : Expr) (x1 : Str) (p1 : Pos) (it1 : Expr) (x2 : Str) (p2 : Pos) (it2 : Expr) (scope : Scope) (pos : Pos) (it acc : Value) (env : Env) :
    compTurn (comp2 elt x1 p1 it1 x2 p2 it2 scope pos) 0 it acc env = (standAt it1.pos >>= fun _ => pyNext it >>= fun r => match r with
      | none => pure (.done .next)
      | some v => letOwnedTupleGo (.Name x1 p1) it v >>= fun _ => assign (.Name x1 p1) env v >>= fun _ =>
        eval it2 env >>= fun x => standAt it2.pos >>= fun _ => foldedSetIterable it2 env x >>= fun x => holding [x] (pyIter x) >>= fun j => runOwn (.compStart (comp2 elt x1 p1 it1 x2 p2 it2 scope pos) 1 j acc env) env >>= fun _ =>
          again (.compLoop (comp2 elt x1 p1 it1 x2 p2 it2 scope pos) 0 it acc env)) := by rfl
theorem compTurn2_1 (elt : Expr) (x1 : Str) (p1 : Pos) (it1 : Expr) (x2 : Str) (p2 : Pos) (it2 : Expr) (scope : Scope) (pos : Pos) (it acc : Value) (env : Env) :
    compTurn (comp2 elt x1 p1 it1 x2 p2 it2 scope pos) 1 it acc env = (standAt it2.pos >>= fun _ => pyNext it >>= fun r => match r with
      | none => pure (.done .next)
      | some v => letOwnedTupleGo (.Name x2 p2) it v >>= fun _ => assign (.Name x2 p2) env v >>= fun _ =>
        (eval elt env >>= fun x => call (.builtin "list.append") [acc, x] >>= fun _ => pure ()) >>= fun _ =>
          again (.compLoop (comp2 elt x1 p1 it1 x2 p2 it2 scope pos) 1 it acc env)) := by rfl
theorem compStart2 {elt : Expr} {x1 : Str} {p1 : Pos} {it1 : Expr} {x2 : Str} {p2 : Pos} {it2 : Expr} {scope : Scope} {pos : Pos} {it acc : Value} {env : Env}
    (h0 : codeAny (model prog w) A (.compLoop (comp2 elt x1 p1 it1 x2 p2 it2 scope pos) 1 it acc env) R s)
    (h : wpAny (model prog w) A (pyIter it) (fun it' s' => codeAny (model prog w) A (.compLoop (comp2 elt x1 p1 it1 x2 p2 it2 scope pos) 1 it' acc env) R s')
      (notedBy (model prog w) A env fun x s' => R (.error x) s') s) :
    codeAny (model prog w) A (.compStart (comp2 elt x1 p1 it1 x2 p2 it2 scope pos) 1 it acc env) R s := by
  refine codeAny_of_tree ?_
  show wpAny _ _ ((compStart (comp2 elt x1 p1 it1 x2 p2 it2 scope pos) 1 it acc env).onRaise (fun x => do noteFrame x env; standAt theWindowsPlace)) _ _ s
  refine wpAny_notedAt ?_
  unfold compStart
  show wpAny _ _ (ask >>= _) _ _ s
  refine wpAny_bind (wpAny_askSetting (wpAny_ite ?_))
  split
  · first
      | exact wpAny_bind (wpAny_pure (wpAny_pure (And.intro rfl h0)))
      | exact wpAny_pure (And.intro rfl h0)
  · first
      | exact wpAny_bind (wpAny_rule (wpAny_bind (wpAny_standAt (wpAny_bind (wpAny_mono h (fun it' s' h' => wpAny_pure (And.intro rfl h')) fun _ _ x => x)))))
      | (refine wpAny_bind (wpAny_rule ?_); show wpAny _ _ (standAt it2.pos >>= _) _ _ s; exact wpAny_bind (wpAny_standAt (wpAny_bind (wpAny_mono h (fun it' s' h' => wpAny_pure (And.intro rfl h')) fun _ _ x => x))))
theorem inner_two {x1 : Str} {p1 : Pos} {it1 : Expr} {x2 : Str} {p2 p3 : Pos} {it2 : Expr} {scope : Scope} {pos : Pos} {cenv : Env} {T D : Addr} {a b : Value} {ys : List Value} {m : Str → Option Value}
    (hh : A.handled = none) (hx : cenv.kindOf x2 = some .local) (hp : (cenv.scope.kind == .class || (cenv.scope.kind == .module && cenv.locals != cenv.globals)) = false) (hdb : (x2 == ("__debug__" : Str)) = false)
    (hT : s.heap.IsTuple T #[a, b]) (hD : s.heap.get? D = some (LCg.lst ys)) (hC : s.heap.Ns cenv.locals m) (hsz : ys.length + 2 ≤ sizeLine)
    (hTC : T ≠ cenv.locals) (hTD : T ≠ D) (hCD : cenv.locals ≠ D)
    (hl : ∀ (m' : Str → Option Value) (v : Value) (s' : Shared) (Q : Value → Shared → Prop) (E : Value → Shared → Prop), s'.heap.Ns cenv.locals m' → m' x2 = some v → Q v s' → wpAny (model prog w) A (loadName cenv x2) Q E s')
    (hR : ∀ h' tk m', h'.Ns cenv.locals m' → h'.get? D = some (LCg.lst (ys ++ [a, b])) → (∀ c o, c ≠ cenv.locals → c ≠ D → s.heap.get? c = some o → h'.get? c = some o) → R (.ok .next) { s with heap := h', toks := tk }) :
    wpAny (model prog w) A (pyIter (.ref T)) (fun j s' => codeAny (model prog w) A (.compStart (comp2 (.Name x2 p3) x1 p1 it1 x2 p2 it2 scope pos) 1 j (.ref D) cenv) R s') E s := by
  refine wpAny_pyIter_tuple hT ?_
  have hTlt : T < s.heap.objs.size := by obtain ⟨_, e, _⟩ := hT; exact Heap.lt_size e
  have hDlt : D < s.heap.objs.size := Heap.lt_size hD
  have hClt : cenv.locals < s.heap.objs.size := hC.lt
  have up : ∀ c o, s.heap.get? c = some o → (s.heap.push { cls := .type "tuple_iterator", data := .fields #[.ref T, .int 0 0] }).get? c = some o := fun c o e => Heap.get?_push_of_some _ e
  have W := Walks.tuple (prog := prog) (w := w) hh s.heap.objs.size T (Nat.ne_of_lt hTlt) #[a, b]
  have st0 : (s.heap.push { cls := .type "tuple_iterator", data := .fields #[.ref T, .int 0 0] }).IsTupleIter s.heap.objs.size T 0 ∧ (s.heap.push { cls := .type "tuple_iterator", data := .fields #[.ref T, .int 0 0] }).IsTuple T #[a, b] :=
    ⟨⟨_, Heap.get?_push_size _ rfl, rfl, rfl⟩, by obtain ⟨o, e, r⟩ := hT; exact ⟨o, up _ _ e, r⟩⟩
  have hCf : cenv.locals ∉ [s.heap.objs.size, T] := by
    intro hm
    rcases List.mem_cons.mp hm with h | hm
    · exact Nat.ne_of_lt hClt h
    · exact hTC (List.mem_singleton.mp hm).symm
  have hDf : D ∉ [s.heap.objs.size, T] := by
    intro hm
    rcases List.mem_cons.mp hm with h | hm
    · exact Nat.ne_of_lt hDlt h
    · exact hTD (List.mem_singleton.mp hm).symm
  have loop : codeAny (model prog w) A (.compLoop (comp2 (.Name x2 p3) x1 p1 it1 x2 p2 it2 scope pos) 1 (.ref s.heap.objs.size) (.ref D) cenv) R { s with heap := s.heap.push { cls := .type "tuple_iterator", data := .fields #[.ref T, .int 0 0] } } := by
    refine codeAny_loop rfl (fun k s' => ∃ h' tk i m', s' = { s with heap := h', toks := tk } ∧ i ≤ 2 ∧ k = 3 - i ∧ (h'.IsTupleIter s.heap.objs.size T i ∧ h'.IsTuple T #[a, b]) ∧ h'.Ns cenv.locals m' ∧ h'.get? D = some (LCg.lst (ys ++ [a, b].take i)) ∧
      ∀ c o, c ≠ cenv.locals → c ≠ D → s.heap.get? c = some o → h'.get? c = some o) ?_ 3
      ⟨_, s.toks, 0, m, rfl, by (first | lia | omega), rfl, st0, hC.at' fun o e => up _ _ e, by rw [List.take_zero, List.append_nil]; exact up _ _ hD, fun c o _ _ e => up c o e⟩
    rintro k s' ⟨h', tk, i, m', rfl, hi, rfl, hst, hn, hd, hk⟩
    show wpAny _ A ((compTurn (comp2 (.Name x2 p3) x1 p1 it1 x2 p2 it2 scope pos) 1 (.ref s.heap.objs.size) (.ref D) cenv).onRaise (fun x => do noteFrame x cenv; theTreesLotGoes x)) _ _ _
    refine wpAny_noted ?_
    rw [compTurn2_1]
    refine wpAny_bind (wpAny_standAt (wpAny_bind ?_))
    by_cases hlt : i < 2
    · refine W.item i _ _ _ hlt hst fun v h₁ tk₁ hv hst₁ hk₁ => ?_
      refine wpAny_bind (wpAny_pure ?_)
      have hCJ : cenv.locals ∉ [s.heap.objs.size] := fun hm => hCf (by simp at hm; simp [hm])
      have hDJ : D ∉ [s.heap.objs.size] := fun hm => hDf (by simp at hm; simp [hm])
      have hn₁ : h₁.Ns cenv.locals m' := hn.at' fun o e => hk₁ _ o hCJ e
      refine wpAny_bind (wpAny_assign_Name (wpAny_storeName_local hx hn₁ (fun h₂ hn₂ hs₂ => ?_) hp))
      refine wpAny_bind (wpAny_bind ?_)
      refine wpAny_Name (hl _ v _ _ _ hn₂ (by simp) ?_) hdb
      have hd₁ : h₂.get? D = some (LCg.lst (ys ++ [a, b].take i)) := hs₂.extBut _ _ (Ne.symm hCD) (hk₁ _ _ hDJ hd)
      refine wpAny_bind (append_at (hsz := ?hz) hd₁ fun h₃ hs₃ hd₃ => ?hk)
      case hz =>
        show (ys ++ [a, b].take i).toArray.size ≤ sizeLine
        rw [List.size_toArray, List.length_append, List.length_take]
        simp only [List.length_cons, List.length_nil]
        (first | lia | omega)
      case hk =>
        refine wpAny_pure (wpAny_pure ⟨rfl, 3 - (i + 1), by (first | lia | omega), h₃, _, i + 1, _, rfl, hlt, rfl, ?_, hn₂.sameBut hs₃ hCD, ?_, ?_⟩)
        · exact W.frame _ _ _ (W.frame _ _ _ hst₁ fun c hc o e => hs₂.extBut c o (fun q => hCf (q ▸ hc)) e) fun c hc o e => hs₃.extBut c o (fun q => hDf (q ▸ hc)) e
        · rw [hd₃]
          refine congrArg some ?_
          have e1 := LCg.lst_snoc (ys ++ [a, b].take i) v
          have e2 : ys ++ [a, b].take (i + 1) = (ys ++ [a, b].take i) ++ [v] := by
            have hv' : [a, b][i]? = some v := by simpa using hv
            rw [List.take_add_one, hv', List.append_assoc]
            rfl
          rw [e2]
          exact e1
        · intro c o c1 c2 e
          refine hs₃.extBut c o c2 (hs₂.extBut c o c1 (hk₁ c o ?_ (hk c o c1 c2 e)))
          intro hm
          exact Nat.ne_of_lt (Heap.lt_size e) (List.mem_singleton.mp hm)
    · have hi2 : i = 2 := by (first | lia | omega)
      subst hi2
      refine W.done _ _ _ hst fun h₁ tk₁ hk₁ => ?_
      have hCJ : cenv.locals ∉ [s.heap.objs.size] := fun hm => hCf (by simp at hm; simp [hm])
      have hDJ : D ∉ [s.heap.objs.size] := fun hm => hDf (by simp at hm; simp [hm])
      refine wpAny_pure (hR h₁ _ m' (hn.at' fun o e => hk₁ _ o hCJ e) (hk₁ _ _ hDJ hd) fun c o c1 c2 e => hk₁ c o ?_ (hk c o c1 c2 e))
      intro hm
      exact Nat.ne_of_lt (Heap.lt_size e) (List.mem_singleton.mp hm)
  exact compStart2 loop (W.self 0 _ _ _ st0 loop)
end
end Mine
end
section
open PySem PySem.W PyProof.Rows
set_option Elab.async false
namespace Mine
section
variable {prog : Program} {w : World} {A : Around} {E : Value → Shared → Prop} {s : Shared} {h₀ : Heap} {L : Addr} {m : Str → Option Value} {env : Env}
noncomputable def ListSrc (prog : Program) (w : World) (A : Around) (h₀ : Heap) (L : Addr) (m : Str → Option Value) (env : Env) (elt : Expr) (x : Str) (scope : Scope) (cl : List (Str × Addr)) (R : Nat → Value → Prop) (Q : Value → Shared → Prop) (xv : Value) (s₁ : Shared) : Prop :=
  ∃ ax its ep news, xv = .ref ax ∧ A.handled = none ∧ Fr h₀ L s₁.heap m ∧ News h₀ L s₁.heap news ∧ (ax, listOf its ep) ∈ news ∧ its.size ≤ sizeLine ∧
    (∀ g, EltOk prog w A h₀ L m env elt x scope cl { s₁ with heap := g } (fun i v => its[i]? = some v) R its.size news) ∧
    ∀ D h' tk ys, RowIs R its.size ys → Fr h₀ L h' m → News h₀ L h' ((D, LCg.lst ys) :: news) → (∀ p ∈ news, p.1 ≠ D) → Q (.ref D) { s₁ with heap := h', toks := tk }
theorem comp_list {elt iter : Expr} {x : Str} {px : Pos} {scope : Scope} {cl : List (Str × Addr)} {pos : Pos} {Q : Value → Shared → Prop} {R : Nat → Value → Prop} (F₀ : Fr h₀ L s.heap m)
    (hclos : closureFor scope env = pure cl) (hcell : ∀ y ∈ scope.names, y.2 ≠ .cell) (hkind : scope.kind = .function)
    (hnames : ∀ y ∈ scope.names, y.2 = .local → scope.names.lookup y.1 = some .local) (hx : scope.names.lookup x = some .local)
    (h : wpAny (model prog w) A (eval iter env) (ListSrc prog w A h₀ L m env elt x scope cl R Q) E s)
    (hs : ∀ x, foldedSetIterable iter env x = pure x) :
    wpAny (model prog w) A (eval (.ListComp elt [⟨.Name x px, iter, [], 0⟩] scope pos) env) Q E s := by
  refine LCg.ListComp_U F₀ hclos hcell hkind hnames hx (wpAny_mono h (fun xv s₁ h₁ => ?_) fun _ _ e => e) hs
  obtain ⟨ax, its, ep, news, rfl, hh, F, N, hm, hsz, hel, hQ⟩ := h₁
  refine LCg.CompSrc.ledger hh F N hm hsz fun g => ?_
  refine rest_all (.inr ⟨_, hm, rfl, _, rfl⟩) (hel g) (fun ys hr => ?_) its.size 0 [] (by (first | lia | omega)) .nil
  intro D h' tk F' N' off
  exact hQ D h' tk ys hr F' N' (off1_ne off)
noncomputable def RangeSrc (prog : Program) (w : World) (A : Around) (h₀ : Heap) (L : Addr) (m : Str → Option Value) (env : Env) (elt : Expr) (x : Str) (scope : Scope) (cl : List (Str × Addr)) (R : Nat → Value → Prop) (Q : Value → Shared → Prop) (xv : Value) (s₁ : Shared) : Prop :=
  ∃ r a b c t u v n news, xv = .ref r ∧ A.handled = none ∧ Fr h₀ L s₁.heap m ∧ News h₀ L s₁.heap news ∧ IsRange s₁.heap r a b c t u v ∧ Builtin.Range.small a b c = true ∧ Builtin.Range.rangeSize a b c = ((n : Nat) : Int) ∧ n ≤ sizeLine ∧
    (∀ g, EltOk prog w A h₀ L m env elt x scope cl { s₁ with heap := g } (fun i v => ∃ t, v = .int (a + (i : Int) * c) t) R n news) ∧
    ∀ D h' tk ys, RowIs R n ys → Fr h₀ L h' m → News h₀ L h' ((D, LCg.lst ys) :: news) → (∀ p ∈ news, p.1 ≠ D) → Q (.ref D) { s₁ with heap := h', toks := tk }
theorem comp_range {elt iter : Expr} {x : Str} {px : Pos} {scope : Scope} {cl : List (Str × Addr)} {pos : Pos} {Q : Value → Shared → Prop} {R : Nat → Value → Prop} (_F₀ : Fr h₀ L s.heap m)
    (hclos : closureFor scope env = pure cl) (hcell : ∀ y ∈ scope.names, y.2 ≠ .cell) (hkind : scope.kind = .function)
    (hnames : ∀ y ∈ scope.names, y.2 = .local → scope.names.lookup y.1 = some .local) (hx : scope.names.lookup x = some .local)
    (h : wpAny (model prog w) A (eval iter env) (RangeSrc prog w A h₀ L m env elt x scope cl R Q) E s)
    (hs : ∀ x, foldedSetIterable iter env x = pure x) :
    wpAny (model prog w) A (eval (.ListComp elt [⟨.Name x px, iter, [], 0⟩] scope pos) env) Q E s := by
  rw [eval_ListComp]
  refine wpAny_comprehension_free (use := none) rfl hs hclos hkind hnames (wpAny_mono h (fun xv s₁ h₁ => ?_) fun _ _ e => e)
  obtain ⟨r, a, b, c, t, u, v, n, news, rfl, hh, F, N, hr, hsm, hn, hsz, hel, hQ⟩ := h₁
  refine wpAny_pyIter_range hr hsm ?_
  refine LCg.block_U (S := fun _ => True) (Fin := fun ys nw => nw = news ∧ RowIs R n ys) (Walks.range hh s₁.heap.objs.size a c n) hsz (fun i h st => ⟨_, st⟩) (fun i h h' o nw st e e' _ _ _ => ?_) hcell hkind hx (by show IsRangeIter _ _ _ _ _; rw [hn]; simpa using Heap.get?_push_size _ rfl) (fun b hb => ?_)
    (F.keeps fun _ _ e => Heap.get?_push_of_some _ e) (N.grown fun _ _ e => Heap.get?_push_of_some _ e) (Nat.ne_of_lt F.ns.lt) (next_is_new F) (fun p hp => Nat.ne_of_lt (Heap.lt_size (N p hp).1)) trivial
    (rest_all trivial (hel _) (fun ys hr => ⟨rfl, hr⟩) n 0 [] (by (first | lia | omega)) .nil) ?_
  · have st' : h.get? s₁.heap.objs.size = some _ := st
    show h'.get? s₁.heap.objs.size = some _
    rw [e', ← e]; exact st'
  · rw [List.mem_singleton.mp hb]
    show s₁.heap.objs.size < (s₁.heap.push _).objs.size
    rw [Heap.size_push]; exact Nat.lt_succ_self _
  · rintro D C h tk m' ys news' F' N' o1 hn hC₀ hD₀ hCL hDL hCD offC ⟨rfl, hr⟩
    refine ⟨m', hn, fun h'' hs'' => hQ D h'' tk ys hr (F'.change hs'' hCL hC₀) (fun p hp => ?_) (off1_ne o1)⟩
    refine ⟨hs''.extBut _ _ ?_ (N' p hp).1, (N' p hp).2⟩
    rcases List.mem_cons.mp hp with rfl | hp
    · exact Ne.symm hCD
    · exact offC p hp
inductive Row2 (R : Nat → Value → Value → Prop) : Nat → List Value → Prop
  | nil : Row2 R 0 []
  | snoc {i : Nat} {ys : List Value} {a b : Value} : Row2 R i ys → R i a b → Row2 R (i + 1) (ys ++ [a, b])
theorem Row2.length {R : Nat → Value → Value → Prop} {n : Nat} {ys : List Value} (h : Row2 R n ys) : ys.length = 2 * n := by
  induction h with
  | nil => rfl
  | snoc _ _ ih => rw [List.length_append, ih]; simp only [List.length_cons, List.length_nil]; (first | lia | omega)
noncomputable abbrev pairObj (a b : Value) : Obj := { cls := .type "tuple", data := .seq #[a, b] }
noncomputable def PairEnd (h₀ : Heap) (L : Addr) (m : Str → Option Value) (s : Shared) (led : List (Addr × Obj)) (R : Value → Value → Prop) (y : Value) (s₂ : Shared) : Prop :=
  ∃ T a b h' tk', y = .ref T ∧ s₂ = { s with heap := h', toks := tk' } ∧ Fr h₀ L h' m ∧ News h₀ L h' ((T, pairObj a b) :: led) ∧ R a b
noncomputable abbrev PairOk (prog : Program) (w : World) (A : Around) (h₀ : Heap) (L : Addr) (m : Str → Option Value) (env : Env) (it2 : Expr) (x : Str) (scope : Scope) (cl : List (Str × Addr)) (s : Shared) (P : Nat → Value → Prop) (R : Nat → Value → Value → Prop) (n : Nat) (news : List (Addr × Obj)) : Prop :=
  ∀ i v I oI C oC D oD m₂ h tk (E' : Value → Shared → Prop), i < n → P i v → LCg.NsObj oC m₂ → m₂ x = some v → Fr h₀ L h m → News h₀ L h ((I, oI) :: (C, oC) :: (D, oD) :: news) → LCg.Off3 I C D news → ((@Ne Nat I C) ∧ (@Ne Nat I D) ∧ (@Ne Nat C D)) →
    wpAny (model prog w) A (eval it2 (compEnvC scope cl C env)) (PairEnd h₀ L m s ((I, oI) :: (C, oC) :: (D, oD) :: news) (R i)) E' { s with heap := h, toks := tk }
noncomputable def PairSrc (prog : Program) (w : World) (A : Around) (h₀ : Heap) (L : Addr) (m : Str → Option Value) (env : Env) (it2 : Expr) (x : Str) (scope : Scope) (cl : List (Str × Addr)) (R : Nat → Value → Value → Prop) (Q : Value → Shared → Prop) (xv : Value) (s₁ : Shared) : Prop :=
  ∃ ax its ep news, xv = .ref ax ∧ A.handled = none ∧ Fr h₀ L s₁.heap m ∧ News h₀ L s₁.heap news ∧ (ax, listOf its ep) ∈ news ∧ its.size ≤ 1000 ∧
    (∀ g, PairOk prog w A h₀ L m env it2 x scope cl { s₁ with heap := g } (fun i v => its[i]? = some v) R its.size news) ∧
    ∀ D h' tk ys, Row2 R its.size ys → Fr h₀ L h' m → News h₀ L h' ((D, LCg.lst ys) :: news) → (∀ p ∈ news, p.1 ≠ D) → Q (.ref D) { s₁ with heap := h', toks := tk }
theorem comp_pairs {it1 it2 : Expr} {x1 x2 : Str} {p1 p2 p3 : Pos} {scope : Scope} {cl : List (Str × Addr)} {pos : Pos} {Q : Value → Shared → Prop} {R : Nat → Value → Value → Prop} (_F₀ : Fr h₀ L s.heap m)
    (hclos : closureFor scope env = pure cl) (hcell : ∀ y ∈ scope.names, y.2 ≠ .cell) (hkind : scope.kind = .function)
    (hnames : ∀ y ∈ scope.names, y.2 = .local → scope.names.lookup y.1 = some .local) (hx1 : scope.names.lookup x1 = some .local) (hx2 : scope.names.lookup x2 = some .local) (hdb : (x2 == ("__debug__" : Str)) = false)
    (h : wpAny (model prog w) A (eval it1 env) (PairSrc prog w A h₀ L m env it2 x1 scope cl R Q) E s)
    (hs : ∀ x, foldedSetIterable it1 env x = pure x) (hs2 : ∀ C x, foldedSetIterable it2 (compEnvC scope cl C env) x = pure x) :
    wpAny (model prog w) A (eval (comp2 (.Name x2 p3) x1 p1 it1 x2 p2 it2 scope pos) env) Q E s := by
  rw [eval_ListComp]
  refine wpAny_comprehension_free (use := none) rfl hs hclos hkind hnames (wpAny_mono h (fun xv s₁ h₁ => ?_) fun _ _ e => e)
  obtain ⟨ax, its, ep, news, rfl, hh, F, N, hm, hsz, hel, hQ⟩ := h₁
  have hl : s₁.heap.IsList ax its := ⟨_, (N _ hm).1, rfl, ep, rfl⟩
  have hlt : ax < s₁.heap.objs.size := by obtain ⟨_, e, _⟩ := hl; exact Heap.lt_size e
  refine wpAny_pyIter_list hl ?_
  have up : ∀ b o, s₁.heap.get? b = some o → (s₁.heap.push { cls := .type "list_iterator", data := .fields #[.ref ax, .int 0 0] }).get? b = some o := fun b o e => Heap.get?_push_of_some _ e
  have hst0 : (s₁.heap.push { cls := .type "list_iterator", data := .fields #[.ref ax, .int 0 0] }).IsListIter s₁.heap.objs.size ax 0 ∧ (s₁.heap.push { cls := .type "list_iterator", data := .fields #[.ref ax, .int 0 0] }).IsList ax its :=
    ⟨⟨_, Heap.get?_push_size _ rfl, rfl, rfl⟩, hl.push _⟩
  have Wk := Walks.list (prog := prog) (w := w) hh s₁.heap.objs.size ax (Nat.ne_of_lt hlt) its
  have F1 : Fr h₀ L (s₁.heap.push { cls := .type "list_iterator", data := .fields #[.ref ax, .int 0 0] }) m := F.keeps up
  have N1 : News h₀ L (s₁.heap.push { cls := .type "list_iterator", data := .fields #[.ref ax, .int 0 0] }) news := N.grown up
  have hIL : L ≠ s₁.heap.objs.size := Nat.ne_of_lt F.ns.lt
  have hI₀ := next_is_new F
  have off0 : ∀ p ∈ news, p.1 ≠ s₁.heap.objs.size := fun p hp => Nat.ne_of_lt (Heap.lt_size (N p hp).1)
  have hIlt : s₁.heap.objs.size < (s₁.heap.push { cls := .type "list_iterator", data := .fields #[.ref ax, .int 0 0] }).objs.size := by rw [Heap.size_push]; exact Nat.lt_succ_self _
  have haxlt : ax < (s₁.heap.push { cls := .type "list_iterator", data := .fields #[.ref ax, .int 0 0] }).objs.size := Nat.lt_trans hlt hIlt
  generalize hI : s₁.heap.objs.size = I at *
  generalize hH1 : s₁.heap.push { cls := .type "list_iterator", data := .fields #[.ref ax, .int 0 0] } = H1 at *
  refine wpAny_newObj_type (wpAny_newFunctionEnv hcell (by intro y hy; simp at hy) (fun h₁ hns₁ hsb₁ => ?_) hkind)
  dsimp only at hns₁ hsb₁ ⊢
  generalize hH2 : H1.push { cls := .type "list", dict := none, data := .seq ([] : List Value).toArray } = H2 at hns₁ hsb₁ ⊢
  have hC : H2.objs.size = H1.objs.size + 1 := by rw [← hH2, Heap.size_push]
  have hDC : H1.objs.size ≠ H2.objs.size := by rw [hC]; exact Nat.ne_of_lt (Nat.lt_succ_self _)
  have below : ∀ b, b < H1.objs.size → b ≠ H2.objs.size ∧ b ≠ H1.objs.size := fun b hb => ⟨by rw [hC]; exact Nat.ne_of_lt (Nat.lt_succ_of_lt hb), Nat.ne_of_lt hb⟩
  have old : ∀ b o, H1.get? b = some o → h₁.get? b = some o := fun b o e => hsb₁.extBut b o (below b (Heap.lt_size e)).1 (Heap.get?_push_of_some _ (hH2 ▸ Heap.get?_push_of_some _ e))
  have hacc : h₁.get? H1.objs.size = some (LCg.lst []) := hsb₁.extBut _ _ hDC (Heap.get?_push_of_some _ (hH2 ▸ Heap.get?_push_size _ rfl))
  have fresh₀ : ∀ a, H1.objs.size ≤ a → h₀.get? a = none := fun a ha => by
    cases e : h₀.get? a with
    | none => rfl
    | some o' =>
      have := Heap.lt_size (F1.keep a o' e)
      exact absurd this (Nat.not_lt.mpr ha)
  have hD₀ : h₀.get? H1.objs.size = none := fresh₀ _ (Nat.le_refl _)
  have hC₀ : h₀.get? H2.objs.size = none := fresh₀ _ (by rw [hC]; exact Nat.le_succ _)
  have hLlt : L < H1.objs.size := F1.ns.lt
  have hDL : H1.objs.size ≠ L := Ne.symm (below L hLlt).2
  have hCL : H2.objs.size ≠ L := Ne.symm (below L hLlt).1
  have hCI : I ≠ H2.objs.size := (below I hIlt).1
  have hDI : I ≠ H1.objs.size := (below I hIlt).2
  have offCD : ∀ p ∈ news, p.1 ≠ I ∧ p.1 ≠ H2.objs.size ∧ p.1 ≠ H1.objs.size := fun p hp => ⟨off0 p hp, (below _ (Heap.lt_size (N1 p hp).1)).1, (below _ (Heap.lt_size (N1 p hp).1)).2⟩
  have haC := (below ax haxlt).1
  have haD := (below ax haxlt).2
  have haI : ax ≠ I := off0 _ hm
  generalize hDn : H1.objs.size = D at *
  generalize hCn : H2.objs.size = C at *
  have loop : ∀ s₃ : Shared, s₃ = { s₁ with heap := h₁, toks := s₁.toks + ([] : List (Str × Value)).length } →
      codeAny (model prog w) A (.compLoop (comp2 (.Name x2 p3) x1 p1 it1 x2 p2 it2 scope pos) 0 (.ref I) (.ref D) (compEnvC scope cl C env)) (compPost (model prog w) A E none Q (.ref D) C) s₃ := by
    rintro s₃ rfl
    refine codeAny_loop rfl (fun k s' => ∃ h' tk i ys m', s' = { s₁ with heap := h', toks := tk } ∧ i ≤ its.size ∧ k = its.size + 1 - i ∧ Row2 R i ys ∧ (h'.IsListIter I ax i ∧ h'.IsList ax its) ∧ Fr h₀ L h' m ∧ h'.Ns C m' ∧ News h₀ L h' ((D, LCg.lst ys) :: news)) ?_ (its.size + 1)
      ⟨h₁, _, 0, [], _, rfl, Nat.zero_le _, rfl, .nil, Wk.frame _ _ _ hst0 fun b _ o e => old b o e, F1.keeps old, hns₁, fun p hp => ?_⟩
    · rintro k s' ⟨h', tk, i, ys, m', rfl, hi, rfl, hrow, hst, F', hn, N'⟩
      show wpAny _ A ((compTurn (comp2 (.Name x2 p3) x1 p1 it1 x2 p2 it2 scope pos) 0 (.ref I) (.ref D) (compEnvC scope cl C env)).onRaise (fun x => do noteFrame x (compEnvC scope cl C env); theTreesLotGoes x)) _ _ _
      refine wpAny_noted ?_
      rw [compTurn2_0]
      refine wpAny_bind (wpAny_standAt (wpAny_bind ?_))
      by_cases hlt : i < its.size
      · refine Wk.item i _ _ _ hlt hst fun v h₂ tk₂ hv hst₂ hk₂ => ?_
        refine wpAny_bind (wpAny_pure ?_)
        have F2 : Fr h₀ L h₂ m := LCg.fr_but F' hk₂ hIL hI₀
        have N2 : News h₀ L h₂ ((D, LCg.lst ys) :: news) := LCg.news_but N' hk₂ fun p hp => by
          rcases List.mem_cons.mp hp with rfl | hp
          · exact Ne.symm hDI
          · exact (offCD p hp).1
        refine wpAny_bind (wpAny_assign_Name (wpAny_storeName_local (lookup_relabel_local hx1) (hn.at' fun o e => hk₂ _ o (by simpa using Ne.symm hCI) e) (fun h₃ hn₃ hs₃ => ?_) (by simp [compEnvC, relabel, hkind])))
        have F3 : Fr h₀ L h₃ m := F2.change hs₃ hCL hC₀
        have hst₃ : h₃.IsListIter I ax (i + 1) ∧ h₃.IsList ax its := Wk.frame _ _ _ hst₂ fun b hb o e => hs₃.extBut b o (by
          rintro rfl
          simp only [List.mem_cons, List.not_mem_nil, or_false] at hb
          rcases hb with hb | hb
          · exact hCI hb.symm
          · exact haC hb.symm) e
        obtain ⟨oI, heI, roI⟩ := hst₃.1
        obtain ⟨oC, heC, hoC⟩ := LCg.ns_obj hn₃
        have N3 : News h₀ L h₃ ((I, oI) :: (C, oC) :: (D, LCg.lst ys) :: news) := fun p hp => by
          rcases List.mem_cons.mp hp with rfl | hp
          · exact ⟨heI, Ne.symm hIL, hI₀⟩
          · rcases List.mem_cons.mp hp with rfl | hp
            · exact ⟨heC, hCL, hC₀⟩
            · have z := N2 p hp
              refine ⟨hs₃.extBut _ _ ?_ z.1, z.2⟩
              rcases List.mem_cons.mp hp with rfl | hp
              · exact hDC
              · exact (offCD p hp).2.1
        refine wpAny_bind (wpAny_mono (hel s₁.heap i v I oI C oC D _ _ h₃ _ _ hlt hv hoC (by simp) F3 N3 (LCg.Off3.of offCD) ⟨hCI, hDI, Ne.symm hDC⟩) (fun y s₄ h₄ => ?_) fun _ _ e => e)
        obtain ⟨T, a, b, h₄, tk₄, rfl, rfl, F4, N4, hR⟩ := h₄
        have eT := (N4 _ List.mem_cons_self).1
        have eI := (N4 (I, oI) (.tail _ List.mem_cons_self)).1
        have eC := (N4 (C, oC) (.tail _ (.tail _ List.mem_cons_self))).1
        have eD := (N4 (D, _) (.tail _ (.tail _ (.tail _ List.mem_cons_self)))).1
        have N4' : News h₀ L h₄ news := fun p hp => N4 p (.tail _ (.tail _ (.tail _ (.tail _ hp))))
        have hTC : T ≠ C := by
          rintro rfl
          rw [eT] at eC
          obtain ⟨es, ep', hd, _⟩ := hoC
          have eo : pairObj a b = oC := Option.some.inj eC
          rw [← eo] at hd
          cases hd
        have hTD : T ≠ D := by
          rintro rfl
          rw [eT] at eD
          have e9 : (Value.type "tuple") = Value.type "list" := congrArg Obj.cls (Option.some.inj eD)
          exact absurd e9 (by decide)
        refine wpAny_bind (wpAny_standAt (wpAny_bind (wpAny_of_eq (hs2 C _) (wpAny_bind (wpAny_holding ?_)))))
        have hyl := hrow.length
        have hgo : wpAny (model prog w) A (pyIter (.ref T)) (fun j s' => codeAny (model prog w) A (.compStart (comp2 (.Name x2 p3) x1 p1 it1 x2 p2 it2 scope pos) 1 j (.ref D) (compEnvC scope cl C env))
            (fun r s' => match r with
              | .ok f => wpAny (model prog w) A (again (.compLoop (comp2 (.Name x2 p3) x1 p1 it1 x2 p2 it2 scope pos) 0 (.ref I) (.ref D) (compEnvC scope cl C env))) (fun fin s' => match fin with
                | .done f => compPost (model prog w) A E none Q (.ref D) C (.ok f) s'
                | .again c' => c' = .compLoop (comp2 (.Name x2 p3) x1 p1 it1 x2 p2 it2 scope pos) 0 (.ref I) (.ref D) (compEnvC scope cl C env) ∧ ∃ m_1, m_1 < its.size + 1 - i ∧ ∃ h' tk i ys m', s' = { s₁ with heap := h', toks := tk } ∧ i ≤ its.size ∧ m_1 = its.size + 1 - i ∧ Row2 R i ys ∧ (h'.IsListIter I ax i ∧ h'.IsList ax its) ∧ Fr h₀ L h' m ∧ h'.Ns C m' ∧ News h₀ L h' ((D, LCg.lst ys) :: news)) (notedBy (model prog w) A (compEnvC scope cl C env) fun e s' => compPost (model prog w) A E none Q (.ref D) C (.error e) s') s'
              | .error e => cameBackBy (model prog w) A (compEnvC scope cl C env) (notedBy (model prog w) A (compEnvC scope cl C env) fun e s' => compPost (model prog w) A E none Q (.ref D) C (.error e) s') e s') s') (notedBy (model prog w) A (compEnvC scope cl C env) fun e s' => compPost (model prog w) A E none Q (.ref D) C (.error e) s') { s₁ with heap := h₄, toks := tk₄ } := by
          refine inner_two (cenv := compEnvC scope cl C env) (a := a) (b := b) (ys := ys) hh (lookup_relabel_local hx2) (by simp [compEnvC, relabel, hkind]) hdb ⟨_, eT, rfl, _, rfl⟩ eD (hoC.ns eC) (by rw [sizeLine_eq]; (first | lia | omega)) hTC hTD (Ne.symm hDC)
            (fun m' v s' Q E hn hv hq => wpAny_loadName_local (by show (relabel scope env).kind = _; exact hkind) (lookup_relabel_local hx2) hn hv hq) ?_
          intro h₅ tk₅ m₅ hn₅ hd₅ hk₅
          refine wpAny_pure ⟨rfl, its.size + 1 - (i + 1), by (first | lia | omega), h₅, tk₅, i + 1, _, m₅, rfl, hlt, rfl, hrow.snoc hR, ?_, ?_, hn₅, ?_⟩
          · have hk6 : ∀ b o, b ≠ C → b ≠ D → h₄.get? b = some o → h₅.get? b = some o := hk₅
            refine ⟨⟨oI, hk6 _ _ hCI hDI eI, roI⟩, ?_⟩
            exact ⟨_, hk6 _ _ haC haD (N4' _ hm).1, rfl, ep, rfl⟩
          · exact ⟨F4.ns.at' fun o e => hk₅ _ o (Ne.symm hCL) (Ne.symm hDL) e, fun b o e => hk₅ b o (by rintro rfl; rw [show h₀.get? _ = none from hC₀] at e; cases e) (by rintro rfl; rw [hD₀] at e; cases e) (F4.keep b o e), F4.above⟩
          · intro p hp
            rcases List.mem_cons.mp hp with rfl | hp
            · exact ⟨hd₅, hDL, hD₀⟩
            · exact ⟨hk₅ _ _ (offCD p hp).2.1 (offCD p hp).2.2 (N4' p hp).1, (N4' p hp).2⟩
        refine wpAny_mono hgo (fun j s₅ h₅ => ?_) fun _ _ e => e
        exact wpAny_bind (wpAny_runOwn h₅)
      · have hi2 : i = its.size := by (first | lia | omega)
        subst hi2
        refine Wk.done _ _ _ hst fun h₂ tk₂ hk₂ => wpAny_pure ?_
        refine ⟨m', hn.at' fun o e => hk₂ _ o (by simpa using Ne.symm hCI) e, fun h₃ hs₃ => ?_⟩
        have F2 : Fr h₀ L h₂ m := LCg.fr_but F' hk₂ hIL hI₀
        have N2 : News h₀ L h₂ ((D, LCg.lst ys) :: news) := LCg.news_but N' hk₂ fun p hp => by
          rcases List.mem_cons.mp hp with rfl | hp
          · exact Ne.symm hDI
          · exact (offCD p hp).1
        refine hQ D h₃ _ ys hrow (F2.change hs₃ hCL hC₀) (fun p hp => ⟨hs₃.extBut _ _ ?_ (N2 p hp).1, (N2 p hp).2⟩) fun p hp => (offCD p hp).2.2
        rcases List.mem_cons.mp hp with rfl | hp
        · exact hDC
        · exact (offCD p hp).2.1
    · rcases List.mem_cons.mp hp with rfl | hp
      · exact ⟨hacc, hDL, hD₀⟩
      · exact ⟨old _ _ (N1 p hp).1, (N1 p hp).2⟩
  exact codeAny_compStart_list (loop _ rfl) (Wk.self 0 _ _ _ (Wk.frame _ _ _ hst0 fun b _ o e => old b o e) (loop _ rfl))
end
end Mine
end
section
open PySem PySem.W PyProof.Rows
set_option Elab.async false
set_option maxRecDepth 100000
namespace Mine
noncomputable def lawS : Stmt := PySem.Challenge.pw_of0047_01.main.body.getLastD (.Pass ⟨0, 0, 0, 0⟩)
noncomputable def lawB (k : Nat) : List Stmt := (bodyS lawS).drop k
noncomputable def lawN (k : Nat) : Stmt := nthS (bodyS lawS) k
noncomputable abbrev lawE (L fa : Addr) (cd : Value) : Env := envOfC (Str.ofString "law") (scopeS lawS) L fa cd
noncomputable def LawEnd (h₀ : Heap) (L : Addr) (s : Shared) (f : Flow) (s' : Shared) : Prop :=
  f = .ret (.bool true) ∧ ∃ h' tk' m' news', s' = { s with heap := h', toks := tk' } ∧ Fr h₀ L h' m' ∧ News h₀ L h' news' ∧ (∃ a, (37, tabObj a) ∈ news') ∧ ∃ a, (44, tabObj a) ∈ news'
theorem TabHit.tab {P : Addr} {li co : Int} {q : Str} {news : List (Addr × Obj)} (h : TabHit P li co q news) : ∃ a, (P, tabObj a) ∈ news :=
  let ⟨_, _, _, _, m1, _⟩ := h; ⟨_, m1⟩
noncomputable abbrev txtOf (x : Int) (k : Nat) : Str := textOf ((be 6 x (4 * k)).map code)
theorem textOf_length (cs : List Int) : (textOf cs).length = cs.length := by
  show ((cs.map Int.toNat).toArray).size = _
  simp
theorem idm_call' {w : World} {p : Program} {loose : List Str} {mean : ExcName → Option Value} {mg mb : Str → Option Value} {a b : Int} {e : Nat} {ta tb : Tok} (hb : b = 2 ^ e)
    (he1 : 1 ≤ e) (he : e ≤ 150) (ha : 0 < a) (hab : Builtin.Int.intBits a ≤ 150)
    {dp un : Nat} {gd : Option (List Code)} {cn : Str} {cs : Scope} {a1 : Addr} {ccd : Value} {cl : List (Str × Addr)} {outer : List Env} {A₀ : Around} {base h₀ : Heap} {L : Addr} {m : Str → Option Value} {s : Shared} {Q E : Value → Shared → Prop}
    {news : List (Addr × Obj)}
    (B : Below A₀ base outer h₀) (F : Fr h₀ L s.heap m) (X : (hd47.heap_39 w.params).In h₀) (N : News h₀ L s.heap news) (T : Top p loose mean mg mb h₀) (hcs : cs.kind = .function)
    (H1 : TabHit 37 35 4 (inQ "_int2digits") news) (H2 : TabHit 44 50 4 (inQ "_digits2int") news)
    (hdp : dp + 130 < recursionLimit) (hun : un + 970 < cLine)
    (hret : ∀ t h' tk' t1 t2, (∀ p ∈ news, p.1 < t) → Fr h₀ L h' m → News h₀ L h' ((t, { cls := .type "tuple", data := .seq #[.int (a / 2 ^ e) t1, .int (a % 2 ^ e) t2] }) :: news) → Q (.ref t) { s with heap := h', toks := tk' }) :
    wpAny (model PySem.Challenge.rw_of0047_01.row.prog w) (ktrTop dp un gd cn cs L a1 ccd cl outer) (call (.ref 63) [.int a ta, .int b tb]) Q E s := by
  subst hb
  exact idm_call he1 he ha hab B F X N T hcs H1 H2 hdp hun hret
noncomputable def jj (ns : List Int) : Nat := 1 + ((List.take 5 ns).sum.fmod (kk ns)).toNat
theorem jj_range (ns : List Int) : 1 ≤ jj ns ∧ jj ns ≤ kk ns := by
  have h := kk_range ns
  have h2 := Int.emod_nonneg (List.take 5 ns).sum (b := (kk ns : Int)) (by (first | lia | omega))
  have h3 := Int.emod_lt_of_pos (List.take 5 ns).sum (b := (kk ns : Int)) (by (first | lia | omega))
  unfold jj
  rw [Int.fmod_eq_emod_of_nonneg _ (by (first | lia | omega))]
  (first | lia | omega)
theorem half_len (ns : List Int) : (((RR ns).length : Nat) : Int).fdiv 2 = (kk ns : Int) := by
  rw [rr_len, Int.fdiv_eq_ediv_of_nonneg _ (by decide)]
  (first | lia | omega)
theorem behind_eq (ns : List Int) : 2 + (List.take 5 ns).sum.fmod ((((RR ns).length : Nat) : Int).fdiv 2) * 2 = ((2 * jj ns : Nat) : Int) := by
  rw [half_len]
  have h := kk_range ns
  have h2 := Int.emod_nonneg (List.take 5 ns).sum (b := (kk ns : Int)) (by (first | lia | omega))
  unfold jj
  rw [Int.fmod_eq_emod_of_nonneg _ (by (first | lia | omega))]
  (first | lia | omega)
theorem rr_pos (ns : List Int) : ∃ x ∈ (RR ns).reverse, 0 < x := by
  refine ⟨2500, List.mem_reverse.mpr (List.mem_map.mpr ⟨2500, ?_, by decide⟩), by decide⟩
  have h : (((List.take 5 ns).length + (1 + 1 + 1 + 1 + 1) : Nat) : Int).fdiv 2 * 2 ≥ ((List.take 5 ns).length + 1 : Nat) := by
    rw [Int.fdiv_eq_ediv_of_nonneg _ (by decide)]
    have := List.length_take_le 5 ns
    (first | lia | omega)
  rw [List.mem_iff_getElem?]
  refine ⟨(List.take 5 ns).length, ?_⟩
  rw [List.getElem?_take_of_lt (by (first | lia | omega)), List.getElem?_append_right (Nat.le_refl _), Nat.sub_self]
  rfl
theorem number_pos (ns : List Int) : 0 < valD 12 (RR ns).reverse := valD_pos (rr_rev ns) (rr_pos ns)
theorem number_lt (ns : List Int) : valD 12 (RR ns).reverse < 2 ^ (24 * kk ns) := by
  have h := (valD_bound 12 (RR ns).reverse (rr_rev ns)).2
  rw [List.length_reverse, rr_len] at h
  rwa [show 12 * (2 * kk ns) = 24 * kk ns by (first | lia | omega)] at h
end Mine
end
section
open PySem PySem.W PyProof.Rows
set_option Elab.async false
set_option maxRecDepth 100000
set_option maxHeartbeats 8000000
set_option rowWalk.seconds 0
namespace Mine
theorem law_t8 {w : World} {p : Program} {loose : List Str} {mean : ExcName → Option Value} {mg mb : Str → Option Value} {ns : List Int} {ys vs0 : List Value} {tn tt : Tok}
    {fa : Addr} {cd : Value} {base h₀ : Heap} {L R sc : Addr} {m : Str → Option Value} {s : Shared} {news : List (Addr × Obj)}
    (B : Below callerA base [] h₀) (X : (hd47.heap_39 w.params).In h₀) (T : Top p loose mean mg mb h₀)
    (hI : IntsAre ys (RR ns)) (hI0 : IntsAre vs0 ns) (hS : h₀.IsList sc vs0.toArray) (hns : ns.length ≤ 63)
    (F : Fr h₀ L s.heap m) (N : News h₀ L s.heap news) (mR : (R, LCg.lst ys) ∈ news)
    (H1 : TabHit 37 35 4 (inQ "_int2digits") news) (H2 : TabHit 44 50 4 (inQ "_digits2int") news)
    (m1 : m (Str.ofString "script") = some (.ref sc)) (m2 : m (Str.ofString "rights") = some (.ref R)) (m3 : m (Str.ofString "number") = some (.int (valD 12 (RR ns).reverse) tn)) (m4 : m (Str.ofString "text") = some (.str (txtOf (valD 12 (RR ns).reverse) (kk ns)) tt)) :
    wpAny (model PySem.Challenge.rw_of0047_01.row.prog w) (callerA.deeper (lawE L fa cd)) (execs (lawB 8) (lawE L fa cd)) (LawEnd h₀ L s) (fun _ _ => False) s := by
  have e : lawB 8 = lawB 8 := rfl
  conv at e => rhs; whnf
  have e2 : scopeS lawS = scopeS lawS := rfl
  conv at e2 => rhs; whnf
  rw [chain_cons m1, chain_cons m2, chain_cons m3, chain_cons m4] at F
  clear m1 m2 m3 m4
  revert X
  k_fill
  intro X
  rw [e]
  unfold lawE
  rw [e2]
  clear e e2
  w_top on
  w_on
  k_with_none
  k_with "M" => (first | exact List.mem_cons_self | assumption | (refine' List.mem_cons_of_mem _ ?_; k_mem))
  k_with "U" => exact upd_of_updF (by assumption)
  k_with "A" => (first | with_reducible assumption | (refine all_ne_of_lt (by assumption) ?_; omega) | (refine all_ne_upd (by assumption) (by assumption) ?_; omega))
  k_with "execs cons" => ((with_reducible refine wpAny_execs_cons ?_); try dsimp only)
  k_with "call builtin:len" => (k_dflt (refine m_len (by assumption) (by k_mem) (by assumption) (by (first | lia | omega)) ?_); intro _ _)
  k_with "call ref" => ((with_reducible show wpAny _ _ (call (Value.ref 63) _) _ _ _); k_dflt (refine idm_call' (by with_reducible assumption) (by with_reducible assumption) (by with_reducible assumption) (by with_reducible assumption) (by with_reducible assumption) (by k_asm) (by k_asm) (by k_asm) (by k_asm) (by k_asm) (by exact rfl) (by exact TabHit.mono (by assumption) (fun q hq => by k_mem)) (by exact TabHit.mono (by assumption) (fun q hq => by k_mem)) (by decide +kernel) (by decide +kernel) ?_); intro _ _ _ _ _ _ _ _; (try dsimp only); (try k_fold))
  k_with "call ref" => ((with_reducible show wpAny _ _ (call (Value.ref 152) _) _ _ _); k_dflt (refine text_call (by with_reducible assumption) (by with_reducible assumption) (by with_reducible assumption) (by with_reducible assumption) (by k_asm) (by k_asm) (by k_asm) (by k_asm) (by k_asm) (by exact rfl) (by exact TabHit.ready (TabHit.mono (by assumption) (fun q hq => by k_mem))) (by decide +kernel) (by decide +kernel) ?_); intro _ _ _ _ st9 _ _; have e9 := TabHit.inv (TabHit.mono (by assumption) (fun q hq => by k_mem)) (by assumption) st9; subst e9; clear st9; (try dsimp only); (try k_fold))
  k_with "binaryOp Pow int int" => (refine pow_int_small (by with_reducible assumption) (by with_reducible assumption) (by decide) ?_)
  k_with "binaryOp Add str str" => (refine PyProof.Rows.add_str ?_ (by with_reducible assumption); intro _ _)
  have hrl := rr_len ns
  have hkk := kk_range ns
  have hdz : (((RR ns).length : Nat) : Int).fdiv 2 ≠ 0 := by rw [half_len]; exact fun h => absurd (Int.natCast_eq_zero.mp h) (Nat.ne_of_gt (Nat.lt_of_lt_of_le (by decide) hkk.1))
  have hjj := jj_range ns
  have hbe := behind_eq ns
  have hb1 : 0 ≤ 2 + (List.take 5 ns).sum.fmod ((((RR ns).length : Nat) : Int).fdiv 2) * 2 := by rw [hbe]; exact Int.natCast_nonneg _
  have hb2 : 2 + (List.take 5 ns).sum.fmod ((((RR ns).length : Nat) : Int).fdiv 2) * 2 ≤ 1000000 := by rw [hbe]; exact Int.ofNat_le.mpr (Nat.le_trans (Nat.mul_le_mul_left 2 (Nat.le_trans hjj.2 hkk.2)) (by decide))
  have hpw : (4096 : Int) ^ (2 + (List.take 5 ns).sum.fmod ((((RR ns).length : Nat) : Int).fdiv 2) * 2).toNat = 2 ^ (24 * jj ns) := by
    rw [hbe, Int.toNat_natCast, show (4096 : Int) = 2 ^ 12 from rfl, ← Int.pow_mul, ← Nat.mul_assoc]
  have he1 : 1 ≤ 24 * jj ns := Nat.le_trans (by decide) (Nat.mul_le_mul_left 24 hjj.1)
  have he2 : 24 * jj ns ≤ 150 := Nat.le_trans (Nat.mul_le_mul_left 24 (Nat.le_trans hjj.2 hkk.2)) (by decide)
  have hnp := number_pos ns
  have hnl := number_lt ns
  have hnb : Builtin.Int.intBits (valD 12 (RR ns).reverse) ≤ 150 := Nat.le_trans (bits_lt (Int.le_of_lt hnp) hnl) (Nat.le_trans (Nat.mul_le_mul_left 24 hkk.2) (by decide))
  have hq0 : 0 ≤ valD 12 (RR ns).reverse / 2 ^ (24 * jj ns) := Int.ediv_nonneg (Int.le_of_lt hnp) (Int.le_of_lt (pow_pos' _))
  have hr0 : 0 ≤ valD 12 (RR ns).reverse % 2 ^ (24 * jj ns) := Int.emod_nonneg _ (pow_ne _)
  have hqb : Builtin.Int.intBits (valD 12 (RR ns).reverse / 2 ^ (24 * jj ns)) ≤ 24 * (kk ns - jj ns) := bits_div (Int.le_of_lt hnp) (by rwa [← Nat.mul_add, Nat.sub_add_cancel hjj.2])
  have hrb : Builtin.Int.intBits (valD 12 (RR ns).reverse % 2 ^ (24 * jj ns)) ≤ 24 * jj ns := bits_mod _ _
  have hk1 : kk ns - jj ns ≤ 20 := Nat.le_trans (Nat.sub_le _ _) (Nat.le_trans hkk.2 (by decide))
  have hk2 : jj ns ≤ 20 := Nat.le_trans hjj.2 (Nat.le_trans hkk.2 (by decide))
  have hf1 : ((((RR ns).length : Nat) : Int) - (2 + (List.take 5 ns).sum.fmod ((((RR ns).length : Nat) : Int).fdiv 2) * 2)).fdiv 2 * 3 = ((3 * (kk ns - jj ns) : Nat) : Int) := by
    rw [hbe, hrl, Int.fdiv_eq_ediv_of_nonneg _ (by decide)]
    (first | lia | omega)
  have hf2 : (2 + (List.take 5 ns).sum.fmod ((((RR ns).length : Nat) : Int).fdiv 2) * 2).fdiv 2 * 3 = ((3 * jj ns : Nat) : Int) := by
    rw [hbe, Int.fdiv_eq_ediv_of_nonneg _ (by decide)]
    (first | lia | omega)
  have htl : (textOf (List.map code (be 6 (valD 12 (RR ns).reverse / 2 ^ (24 * jj ns)) (4 * (kk ns - jj ns))))).length + (textOf (List.map code (be 6 (valD 12 (RR ns).reverse % 2 ^ (24 * jj ns)) (4 * jj ns)))).length ≤ sizeLine := by
    rw [textOf_length, textOf_length, List.length_map, List.length_map, be_length, be_length, sizeLine_eq, ← Nat.mul_add, Nat.sub_add_cancel hjj.2]
    exact Nat.le_trans (Nat.mul_le_mul_left 4 hkk.2) (by decide)
  have htx := parts_text (x := valD 12 (RR ns).reverse) hjj.2
  repeat (first | (k_unfold; (try dsimp only)) | walk1 | (dsimp only; walk1))
  refine ⟨?_, _, _, _, _, rfl, by assumption, by assumption, (TabHit.mono H1 fun q hq => by k_mem).tab, (TabHit.mono H2 fun q hq => by k_mem).tab⟩
  rw [htx]
  show Flow.ret (Value.bool (_ == _)) = _
  rw [beq_self_eq_true]
end Mine
end
section
open PySem PySem.W PySem.Spec PySem.SeqAt PyProof.Rows
set_option Elab.async false
namespace Mine
section
variable {prog : Program} {w : World} {A : Around} {E : Value → Shared → Prop} {s : Shared}
theorem readsAll_strs {h : Heap} : ∀ {vs : List Value} {ss : List Str}, StrsAre vs ss → ReadsAll h vs (ss.map PyData.str) []
  | _, _, .nil => .nil
  | _, _, .cons y t r => .cons (.str y t) (readsAll_strs r)
theorem reads_strs {h : Heap} {a : Addr} {vs : List Value} {ss : List Str} (hl : h.IsList a vs.toArray) (hi : StrsAre vs ss) : Reads h (.ref a) (.list (ss.map PyData.str)) [a] := by
  obtain ⟨o, ho, hc, n, hd⟩ := hl
  exact Reads.list ho hc hd (by simpa using readsAll_strs hi)
theorem canLayAll0_strs : ∀ ss : List Str, (∀ x ∈ ss, PyData.strOk x = true) → PyData.canLayAll0 (ss.map PyData.str) = true
  | [], _ => by simp [PyData.canLayAll0]
  | n :: r, h => by simp [PyData.canLayAll0, PyData.canLay0, h n (by simp), canLayAll0_strs r fun x hx => h x (by simp [hx])]
theorem depthAll_strs : ∀ ss : List Str, PyData.depthAll (ss.map PyData.str) ≤ 1
  | [] => by simp [PyData.depthAll]
  | n :: r => by
    have := depthAll_strs r
    simp only [List.map_cons, PyData.depthAll, PyData.depth]
    (first | lia | omega)
theorem shaped_strs {ss : List Str} (h : ∀ x ∈ ss, PyData.strOk x = true) : shaped (.list (ss.map PyData.str)) = true := by
  have h1 := depthAll_strs ss
  have h2 : PyData.depth (.list (ss.map PyData.str)) ≤ 64 := by simp only [PyData.depth]; (first | lia | omega)
  show (PyData.canLay0 (.list (ss.map PyData.str)) && decide (PyData.depth (.list (ss.map PyData.str)) ≤ 64)) = true
  rw [Bool.and_eq_true]
  exact ⟨by simp only [PyData.canLay0]; exact canLayAll0_strs ss h, decide_eq_true h2⟩
theorem noMix_strs : ∀ ss rs : List Str, noMixAll (ss.map PyData.str) (rs.map PyData.str) = true
  | [], [] => by simp [noMixAll]
  | [], _ :: _ => by simp [noMixAll]
  | _ :: _, [] => by simp [noMixAll]
  | _ :: r, _ :: q => by simp [noMixAll, noMix, noMix_strs r q]
theorem same_strs : ∀ ss rs : List Str, PySem.Spec.sameAll (ss.map PyData.str) (rs.map PyData.str) = decide (ss = rs)
  | [], [] => by simp [PySem.Spec.sameAll]
  | [], _ :: _ => by simp [PySem.Spec.sameAll]
  | _ :: _, [] => by simp [PySem.Spec.sameAll]
  | n :: r, k :: q => by
    simp only [List.map_cons, PySem.Spec.sameAll, PySem.Spec.same, same_strs r q]
    by_cases h : n = k <;> simp [h]
theorem m_ne_strs {a b : Addr} {vs us : List Value} {ss rs : List Str} {Q : Value → Shared → Prop} (hl : s.heap.IsList a vs.toArray) (hi : StrsAre vs ss) (hl' : s.heap.IsList b us.toArray) (hi' : StrsAre us rs)
    (h1 : ∀ x ∈ ss, PyData.strOk x = true) (h2 : ∀ x ∈ rs, PyData.strOk x = true) (hu : A.units + 64 < cLine)
    (h : Q (.bool (!decide (ss = rs))) s) : wpAny (model prog w) A (compareOp .NotEq (.ref a) (.ref b)) Q E s :=
  ne_dataH_same (reads_strs hl hi) (reads_strs hl' hi') (shaped_strs h1) (shaped_strs h2) hu (by simp only [noMix]; exact noMix_strs ss rs) (by simp only [PySem.Spec.same]; rw [same_strs]; exact h)
end
theorem ints_at : ∀ {vs : List Value} {ns : List Int} {i : Nat} {v : Value}, IntsAre vs ns → vs[i]? = some v → ∃ t, v = .int (ns.getD i 0) t
  | _, _, i, v, .nil, h => by simp at h
  | _, _, 0, v, .cons n t r, h => by simp at h; exact ⟨t, h.symm⟩
  | _, _, i + 1, v, .cons n t r, h => by
    obtain ⟨u, hu⟩ := ints_at (i := i) r (by simpa using h)
    exact ⟨u, by rw [hu, List.getD_cons_succ]⟩
theorem range_small {k : Nat} (h : 2 ≤ k ∧ k ≤ 5) : Builtin.Range.small 0 ((4 * k : Nat) : Int) 2 = true ∧ Builtin.Range.rangeSize 0 ((4 * k : Nat) : Int) 2 = ((2 * k : Nat) : Int) := by
  have h2 : k = 2 ∨ k = 3 ∨ k = 4 ∨ k = 5 := by (first | lia | omega)
  rcases h2 with rfl | rfl | rfl | rfl <;> decide +kernel
theorem m_item {prog : Program} {w : World} {A : Around} {E : Value → Shared → Prop} {s : Shared} {h₀ : Heap} {L l : Addr} {news : List (Addr × Obj)} {vs : List Value} {ns : List Int} {ep : Nat} {value slice : Expr} {k : Int} {u : Tok} {Q : Value → Shared → Prop} (N : News h₀ L s.heap news) (hm : (l, listOf vs.toArray ep) ∈ news) (hI : IntsAre vs ns)
    (h0 : 0 ≤ k) (h1 : k < ns.length) (hfit : k < 2 ^ 63) (h : ∀ t, Q (.int (ns.getD k.toNat 0) t) s)
    (hs : subscripted slice false (.ref l) (.int k u) = operate [.ref l, .int k u] (getItem (.ref l) (.int k u))) :
    wpAny (model prog w) A (subscriptTail value slice (.ref l) (.int k u)) Q E s := item_anyK (m_isList N hm) hI h0 h1 hfit h hs
theorem pl_at {xs : List Int} (h : ∀ x ∈ xs, 0 ≤ x ∧ x < 4096) (i : Nat) : 0 ≤ (pl xs).getD i 0 ∧ (pl xs).getD i 0 < 64 := by
  rw [List.getD_eq_getElem?_getD]
  cases hq : (pl xs)[i]? with
  | none => decide
  | some y => exact pl_range h y (List.mem_of_getElem? hq)
theorem pick_lt (t : Int → Bool) {d : Nat} (hd : d < 200) : ∀ l : List (Addr × Int × Nat × Nat × Nat), (∀ q ∈ l, q.2.2.2.1 < 200) → pick t d l < 200
  | [], _ => hd
  | q :: r, h => by
    show (if t q.2.1 then q.2.2.2.1 else pick t d r) < 200
    split
    · exact h q (by simp)
    · exact pick_lt t hd r fun x hx => h x (by simp [hx])
theorem fmTab_lt : ∀ p ∈ fmTab, ∀ q ∈ p.2, q.2.2.2.1 < 200 := by decide
theorem fmC_lt (md : Int) (i : Nat) : fmC md i < 200 := by
  unfold fmC
  refine pick_lt _ (by unfold fmDef; split <;> (first | lia | omega)) _ ?_
  cases h : fmTab[i]? with
  | none => intro q hq; cases hq
  | some p => exact fun q hq => fmTab_lt p (List.mem_of_getElem? h) q hq
theorem strOk_append {x y : Str} (hx : PyData.strOk x = true) (hy : PyData.strOk y = true) : PyData.strOk (x ++ y) = true := by
  unfold PyData.strOk at *
  rw [Str.cps_append, Array.all_append, hx, hy]
  rfl
theorem strOk_join : ∀ ss : List Str, (∀ x ∈ ss, PyData.strOk x = true) → PyData.strOk (Str.join ⟨#[]⟩ ss) = true
  | [], _ => by decide +kernel
  | [x], h => h x (by simp)
  | x :: y :: r, h => by
    show PyData.strOk (x ++ ⟨#[]⟩ ++ Str.join ⟨#[]⟩ (y :: r)) = true
    exact strOk_append (strOk_append (h x (by simp)) (by simp [PyData.strOk])) (strOk_join (y :: r) fun z hz => h z (by simp [hz]))
theorem fmS_ok (md : Int) : PyData.strOk (fmS md) = true := by
  unfold fmS fmSS
  refine strOk_join _ fun x hx => ?_
  obtain ⟨j, _, rfl⟩ := List.mem_map.mp hx
  have := fmC_lt md j
  show (#[fmC md j].all (· < 0x110000)) = true
  simp
  (first | lia | omega)
theorem range_code (cs : List Int) : (List.range cs.length).map (fun i => chrS (code (cs.getD i 0))) = (cs.map code).map chrS := by
  apply List.ext_getElem
  · simp
  · intro i h1 h2
    simp only [List.length_map] at h2
    simp [List.getD_eq_getElem?_getD, List.getElem?_eq_getElem h2]
theorem m_ne_ints {prog : Program} {w : World} {A : Around} {E : Value → Shared → Prop} {s : Shared} {h₀ : Heap} {L a b : Addr} {news : List (Addr × Obj)} {vs us : List Value} {ns ms : List Int} {ep eq : Nat} {Q : Value → Shared → Prop} (N : News h₀ L s.heap news) (ha : (a, listOf vs.toArray ep) ∈ news) (hi : IntsAre vs ns) (hb : (b, listOf us.toArray eq) ∈ news) (hi' : IntsAre us ms) (hu : A.units + 64 < cLine)
    (h : Q (.bool (!decide (ns = ms))) s) : wpAny (model prog w) A (compareOp .NotEq (.ref a) (.ref b)) Q E s := ne_intsK (m_isList N ha) hi (m_isList N hb) hi' hu h
theorem rows_same {xs : List Int} (h : ∀ x ∈ xs, 0 ≤ x ∧ x < 4096) {n : Nat} : (List.range n).map (fun i => rowS ((pl xs).getD (2 * i) 0) ((pl xs).getD (2 * i + 1) 0)) = (List.range n).map (fun i => fmS (32768 + xs.getD i 0)) := by
  apply List.map_congr_left
  intro i _
  have hx : 0 ≤ xs.getD i 0 ∧ xs.getD i 0 < 4096 := by
    rw [List.getD_eq_getElem?_getD]
    cases hq : xs[i]? with
    | none => decide
    | some y => exact h y (List.mem_of_getElem? hq)
  show rowS _ _ = fmS _
  rw [pl_even, pl_odd, fm_row hx.1 hx.2]
end Mine
end
section
open PySem PySem.W PyProof.Rows
set_option Elab.async false
set_option maxRecDepth 100000
set_option maxHeartbeats 8000000
set_option rowWalk.seconds 0
namespace Mine
theorem law_t7 {w : World} {p : Program} {loose : List Str} {mean : ExcName → Option Value} {mg mb : Str → Option Value} {ns : List Int} {ys ps vs0 : List Value} {tn tt : Tok}
    {fa : Addr} {cd : Value} {base h₀ : Heap} {L R P sc : Addr} {oP : Obj} {m : Str → Option Value} {s : Shared} {news : List (Addr × Obj)}
    (B : Below callerA base [] h₀) (X : (hd47.heap_39 w.params).In h₀) (T : Top p loose mean mg mb h₀)
    (hI : IntsAre ys (RR ns)) (hIp : IntsAre ps (pl (RR ns))) (hI0 : IntsAre vs0 ns) (hS : h₀.IsList sc vs0.toArray) (hns : ns.length ≤ 63)
    (F : Fr h₀ L s.heap m) (N : News h₀ L s.heap news) (mR : (R, LCg.lst ys) ∈ news) (mP : (P, LCg.lst ps) ∈ news) (mC : (L + 1, oP) ∈ news) (hoP : oP.data = .cell (some (.ref P)))
    (H1 : TabHit 37 35 4 (inQ "_int2digits") news) (H2 : TabHit 44 50 4 (inQ "_digits2int") news)
    (m1 : m (Str.ofString "script") = some (.ref sc)) (m2 : m (Str.ofString "rights") = some (.ref R)) (m3 : m (Str.ofString "number") = some (.int (valD 12 (RR ns).reverse) tn)) (m4 : m (Str.ofString "text") = some (.str (txtOf (valD 12 (RR ns).reverse) (kk ns)) tt)) :
    wpAny (model PySem.Challenge.rw_of0047_01.row.prog w) (callerA.deeper (lawE L fa cd)) (execs (lawB 7) (lawE L fa cd)) (LawEnd h₀ L s) (fun _ _ => False) s := by
  have e : lawB 7 = lawN 7 :: lawB 8 := by kernel_rfl
  have e1 : lawN 7 = lawN 7 := rfl
  conv at e1 => rhs; whnf
  have e2 : scopeS lawS = scopeS lawS := rfl
  conv at e2 => rhs; whnf
  rw [chain_cons m1, chain_cons m2, chain_cons m3, chain_cons m4] at F
  clear m1 m2 m3 m4
  revert X
  k_fill
  intro X
  rw [e, e1]
  unfold lawE
  rw [e2]
  clear e e1 e2
  w_top on
  w_on
  k_with_none
  k_with "M" => (first | exact List.mem_cons_self | assumption | (refine' List.mem_cons_of_mem _ ?_; k_mem))
  k_with "U" => exact upd_of_updF (by assumption)
  k_with "A" => (first | with_reducible assumption | (refine all_ne_of_lt (by assumption) ?_; omega) | (refine all_ne_upd (by assumption) (by assumption) ?_; omega))
  k_with "execs cons" => ((with_reducible refine wpAny_execs_cons ?_); try dsimp only)
  k_with "call builtin:len" => (k_dflt (refine m_len (by assumption) (by k_mem) (by assumption) (by (first | lia | omega)) ?_); intro _ _)
  k_with "eval ListComp" => ((with_reducible show wpAny _ _ (eval _ _) _ _ _); refine Held.out ?_)
  k_with "call ref" => ((with_reducible show wpAny _ _ (call (Value.ref 140) _) _ _ _); k_dflt (refine fm_call (by k_asm) (by k_asm) (by k_asm) (by k_asm) (by k_asm) (by exact rfl) (by decide +kernel) (by decide +kernel) ?_); intro _ _ _ _ _; (try dsimp only); (try k_fold))
  k_with "call ref" => ((with_reducible show wpAny _ _ (call (Value.ref 159) _) _ _ _); k_dflt (refine row_call (by with_reducible assumption) (by with_reducible assumption) (by with_reducible assumption) (by with_reducible assumption) (by k_asm) (by k_asm) (by k_asm) (by k_asm) (by k_asm) (by exact rfl) (by decide +kernel) (by decide +kernel) ?_); intro _ _ _ _ _; (try dsimp only); (try k_fold))
  k_with "subscriptTail Name Name ref int" => (k_dflt (refine m_item (by k_asm) (by k_mem) (by with_reducible assumption) (by (first | lia | omega)) (by (first | lia | omega)) (by (first | lia | omega)) ?_ (by with_unfolding_all rfl)); intro _)
  k_with "subscriptTail Name BinOp ref int" => (k_dflt (refine m_item (by k_asm) (by k_mem) (by with_reducible assumption) (by (first | lia | omega)) (by (first | lia | omega)) (by (first | lia | omega)) ?_ (by with_unfolding_all rfl)); intro _)
  k_with "execs cons" => ((with_reducible show wpAny _ _ (execs (lawB _) _) _ _ _); refine Held.out ?_)
  have hrl := rr_len ns
  have hkk := kk_range ns
  repeat (first | (k_unfold; (try dsimp only)) | walk1 | (dsimp only; walk1))
  refine Held.mk ?_
  k_dflt (refine' comp_list (hs := by intro _; rfl) (R := fun i y => ∃ t, y = .str (fmS (32768 + (RR ns).getD i 0)) t) ?cF ?c1 ?c2 ?c3 ?c4 ?c5 ?_; (case cF => k_asm); (case c1 => exact rfl); (case c2 => decide); (case c3 => exact rfl); (case c4 => decide); (case c5 => exact rfl))
  repeat (first | (k_unfold; (try dsimp only)) | walk1 | (dsimp only; walk1))
  have hyl := IntsAre.length hI
  refine ⟨R, ys.toArray, ys.length, news, rfl, rfl, by assumption, by assumption, mR, ?z, ?el, ?fin⟩
  case z => rw [List.size_toArray, hyl, sizeLine_eq]; (first | lia | omega)
  case el =>
    intro g i v I oI C oC D oD m₂ h tk E' hi hv hC hx F5 N5 off ne
    obtain ⟨t, rfl⟩ := ints_at hI (by simpa using hv)
    repeat (first | (k_unfold; (try dsimp only)) | walk1 | (dsimp only; walk1))
    exact ⟨_, _, rfl, by assumption, by assumption, _, rfl⟩
  case fin =>
    intro D h' tk zs hr F5 N5 off
    (try dsimp only)
    (try k_fold)
    repeat (first | (k_unfold; (try dsimp only)) | walk1 | (dsimp only; walk1))
    refine Held.mk ?_
    have hpl : (pl (RR ns)).length = 4 * kk ns := by rw [pl_length, hrl]; (first | lia | omega)
    k_dflt (refine' comp_range (hs := by intro _; rfl) (R := fun i y => ∃ t, y = .str (rowS ((pl (RR ns)).getD (2 * i) 0) ((pl (RR ns)).getD (2 * i + 1) 0)) t) ?dF ?d1 ?d2 ?d3 ?d4 ?d5 ?_; (case dF => k_asm); (case d1 => exact rfl); (case d2 => decide); (case d3 => exact rfl); (case d4 => decide); (case d5 => exact rfl))
    repeat (first | (k_unfold; (try dsimp only)) | walk1 | (dsimp only; walk1))
    rename_i hRg hF hN hKp
    refine ⟨_, 0, _, 2, _, _, _, 2 * kk ns, (D, LCg.lst zs) :: news, rfl, rfl, hF, hN, hRg, ?sm, ?sz, ?ln, ?el2, ?fin2⟩
    case sm => rw [hpl]; exact (range_small hkk).1
    case sz => rw [hpl]; exact (range_small hkk).2
    case ln => rw [sizeLine_eq]; (first | lia | omega)
    case el2 =>
      intro g i v I oI C oC D2 oD m₂ h tk E' hi hv hC hx F5 N5 off ne
      obtain ⟨t, rfl⟩ := hv
      have hu := pl_at (rr_range ns) (0 + (i : Int) * 2).toNat
      have hv := pl_at (rr_range ns) (0 + (i : Int) * 2 + 1).toNat
      obtain ⟨hu0, hu1⟩ := hu
      obtain ⟨hv0, hv1⟩ := hv
      repeat (first | (k_unfold; (try dsimp only)) | walk1 | (dsimp only; walk1))
      rw [show (0 + (i : Int) * 2).toNat = 2 * i by (first | lia | omega), show (0 + (i : Int) * 2 + 1).toNat = 2 * i + 1 by (first | lia | omega)]
      exact ⟨_, _, rfl, by assumption, by assumption, _, rfl⟩
    case fin2 =>
      intro D2 h2 tk2 us hr2 F6 N6 off2
      have hSS1 := row_strs (f := fun i => fmS (32768 + (RR ns).getD i 0)) (fun _ _ h => h) hr
      have hSS2 := row_strs (f := fun i => rowS ((pl (RR ns)).getD (2 * i) 0) ((pl (RR ns)).getD (2 * i + 1) 0)) (fun _ _ h => h) hr2
      rw [rows_same (rr_range ns)] at hSS2
      rw [List.size_toArray, hyl, hrl] at hSS1
      (try dsimp only)
      (try k_fold)
      first | (k_unfold; (try dsimp only)) | skip
      refine m_ne_strs (m_isList (ep := zs.length) N6 (by k_mem)) hSS1 (m_isList (ep := us.length) N6 (by k_mem)) hSS2 ?o1 ?o2 (by (show callerA.units + _ + 64 < cLine); decide +kernel) ?nx
      case o1 => intro x hx; obtain ⟨j, _, rfl⟩ := List.mem_map.mp hx; exact fmS_ok _
      case o2 => intro x hx; obtain ⟨j, _, rfl⟩ := List.mem_map.mp hx; exact fmS_ok _
      case nx =>
        rw [decide_eq_true rfl]
        walk1
        walk1
        walk1
        dsimp only
        exact law_t8 B X T hI hI0 hS hns (by assumption) (by assumption) (by k_mem) (TabHit.mono H1 fun q hq => by k_mem) (TabHit.mono H2 fun q hq => by k_mem) rfl rfl rfl rfl
end Mine
end
section
open PySem PySem.W PyProof.Rows
set_option Elab.async false
set_option maxRecDepth 100000
set_option maxHeartbeats 8000000
set_option rowWalk.seconds 0
namespace Mine
theorem law_t6 {w : World} {p : Program} {loose : List Str} {mean : ExcName → Option Value} {mg mb : Str → Option Value} {ns : List Int} {ys ps vs0 : List Value} {tn tt ts : Tok}
    {fa : Addr} {cd : Value} {base h₀ : Heap} {L R P sc : Addr} {oP oS : Obj} {S : Str} {m : Str → Option Value} {s : Shared} {news : List (Addr × Obj)}
    (B : Below callerA base [] h₀) (X : (hd47.heap_39 w.params).In h₀) (T : Top p loose mean mg mb h₀)
    (hI : IntsAre ys (RR ns)) (hIp : IntsAre ps (pl (RR ns))) (hI0 : IntsAre vs0 ns) (hS : h₀.IsList sc vs0.toArray) (hns : ns.length ≤ 63)
    (hS64 : S.length = 64) (hSit : ∀ i : Int, 0 ≤ i → i < 64 → Txt.item S i = chrS (code i))
    (F : Fr h₀ L s.heap m) (N : News h₀ L s.heap news) (mR : (R, LCg.lst ys) ∈ news) (mP : (P, LCg.lst ps) ∈ news) (mC : (L + 1, oP) ∈ news) (hoP : oP.data = .cell (some (.ref P))) (mS : (L + 1 + 1, oS) ∈ news) (hoS : oS.data = .cell (some (.str S ts)))
    (H1 : TabHit 37 35 4 (inQ "_int2digits") news) (H2 : TabHit 44 50 4 (inQ "_digits2int") news)
    (m1 : m (Str.ofString "script") = some (.ref sc)) (m2 : m (Str.ofString "rights") = some (.ref R)) (m3 : m (Str.ofString "number") = some (.int (valD 12 (RR ns).reverse) tn)) (m4 : m (Str.ofString "text") = some (.str (txtOf (valD 12 (RR ns).reverse) (kk ns)) tt)) :
    wpAny (model PySem.Challenge.rw_of0047_01.row.prog w) (callerA.deeper (lawE L fa cd)) (execs (lawB 6) (lawE L fa cd)) (LawEnd h₀ L s) (fun _ _ => False) s := by
  have e : lawB 6 = lawN 6 :: lawB 7 := by kernel_rfl
  have e1 : lawN 6 = lawN 6 := rfl
  conv at e1 => rhs; whnf
  have e2 : scopeS lawS = scopeS lawS := rfl
  conv at e2 => rhs; whnf
  rw [chain_cons m1, chain_cons m2, chain_cons m3, chain_cons m4] at F
  clear m1 m2 m3 m4
  revert X
  k_fill
  intro X
  rw [e, e1]
  unfold lawE
  rw [e2]
  clear e e1 e2
  w_top on
  w_on
  k_with_none
  k_with "M" => (first | exact List.mem_cons_self | assumption | (refine' List.mem_cons_of_mem _ ?_; k_mem))
  k_with "U" => exact upd_of_updF (by assumption)
  k_with "A" => (first | with_reducible assumption | (refine all_ne_of_lt (by assumption) ?_; omega) | (refine all_ne_upd (by assumption) (by assumption) ?_; omega))
  k_with "execs cons" => ((with_reducible refine wpAny_execs_cons ?_); try dsimp only)
  k_with "call builtin:len" => (k_dflt (refine m_len (by assumption) (by k_mem) (by assumption) (by (first | lia | omega)) ?_); intro _ _)
  k_with "eval ListComp" => ((with_reducible show wpAny _ _ (eval _ _) _ _ _); refine Held.out ?_)
  k_with "call ref" => ((with_reducible show wpAny _ _ (call (Value.ref _) _) _ _ _); refine Held.out ?_)
  k_with "compareOp NotEq str str" => ((with_reducible show wpAny _ _ (compareOp _ _ _) _ _ _); refine Held.out ?_)
  k_with "call builtin:str.join" => (k_dflt (refine m_join (by k_asm) (by k_mem) (by with_reducible assumption) (by assumption) ?_); intro _ _)
  k_with "subscriptTail Name Name str int" => ((refine KXi.item (n := 64) (by with_reducible assumption) (by (first | lia | omega)) (by (first | lia | omega)) (by decide) ?_); intro _)
  k_with "compareOp NotEq ref ref" => ((with_reducible show wpAny _ _ (compareOp _ _ _) _ _ _); refine Held.out ?_)
  have hrl := rr_len ns
  have hkk := kk_range ns
  have hpl : (pl (RR ns)).length = 4 * kk ns := by rw [pl_length, hrl]; (first | lia | omega)
  repeat (first | (k_unfold; (try dsimp only)) | walk1 | (dsimp only; walk1))
  refine Held.mk ?_
  k_dflt (refine' comp_list (hs := by intro _; rfl) (R := fun i y => ∃ t, y = .str (chrS (code ((pl (RR ns)).getD i 0))) t) ?cF ?c1 ?c2 ?c3 ?c4 ?c5 ?_; (case cF => k_asm); (case c1 => exact rfl); (case c2 => decide); (case c3 => exact rfl); (case c4 => decide); (case c5 => exact rfl))
  repeat (first | (k_unfold; (try dsimp only)) | walk1 | (dsimp only; walk1))
  have hyl := IntsAre.length hIp
  refine ⟨P, ps.toArray, ps.length, news, rfl, rfl, by assumption, by assumption, mP, ?z, ?el, ?fin⟩
  case z => rw [List.size_toArray, hyl, sizeLine_eq]; (first | lia | omega)
  case el =>
    intro g i v I oI C oC D oD m₂ h tk E' hi hv hC hx F5 N5 off ne
    obtain ⟨t, rfl⟩ := ints_at hIp (by simpa using hv)
    obtain ⟨hu0, hu1⟩ := pl_at (rr_range ns) i
    repeat (first | (k_unfold; (try dsimp only)) | walk1 | (dsimp only; walk1))
    rw [hSit _ hu0 hu1]
    exact ⟨_, _, rfl, by assumption, by assumption, _, rfl⟩
  case fin =>
    intro D h' tk zs hr F5 N5 off
    have hSS := row_strs (f := fun i => chrS (code ((pl (RR ns)).getD i 0))) (fun _ _ h => h) hr
    rw [List.size_toArray, hyl, range_code] at hSS
    have hzz : ((((pl (RR ns)).map code).map chrS).map (·.length)).sum ≤ 1000000 := by
      rw [chars_len, List.length_map, hpl]
      (first | lia | omega)
    have hnp := number_pos ns
    have hnl := number_lt ns
    have htt : txtOf (valD 12 (RR ns).reverse) (kk ns) = textOf ((pl (RR ns)).map code) := by unfold txtOf; rw [number_places hrl (rr_range ns)]
    have hbt : Builtin.Int.intBits (valD 12 (RR ns).reverse) ≤ 24 * kk ns := bits_lt (Int.le_of_lt hnp) hnl
    have hc6 : cnt 6 (valD 12 (RR ns).reverse) ≤ 4 * kk ns := cnt_le (by decide) (by (first | lia | omega))
    have hfb : fill 6 (valD 12 (RR ns).reverse) (4 * kk ns) = pl (RR ns) := by rw [fill_be (by decide) (Int.le_of_lt hnp) hc6, number_places hrl (rr_range ns)]
    (try dsimp only)
    (try k_fold)
    repeat (first | (k_unfold; (try dsimp only)) | walk1 | (dsimp only; walk1))
    refine Held.mk ?_
    rw [join_chars, htt]
    refine ne_str ?_
    rw [show (textOf ((pl (RR ns)).map code) != textOf ((pl (RR ns)).map code)) = false from bne_self_eq_false _]
    repeat (first | (k_unfold; (try dsimp only)) | walk1 | (dsimp only; walk1))
    refine Held.mk ?_
    k_dflt (refine' filled_call' (n := 6) (c := 4 * kk ns) ?e1 ?e2 ?n1 ?n2 ?x0 ?xb ?hl ?hc ?hc2 ?k1 ?k2 ?k3 ?k4 ?k5 ?kK ?hR ?kd ?ku ?_; (case e1 => exact rfl); (case e2 => rw [hpl]); (case n1 => decide); (case n2 => decide); (case x0 => exact Int.le_of_lt hnp); (case xb => (first | lia | omega)); (case hl => (first | lia | omega)); (case hc => exact hc6); (case hc2 => (first | lia | omega)); (case k1 => k_asm); (case k2 => k_asm); (case k3 => k_asm); (case k4 => k_asm); (case k5 => k_asm); (case kK => exact rfl); (case hR => exact TabHit.ready (TabHit.mono H1 (fun q hq => by k_mem))); (case kd => decide +kernel); (case ku => decide +kernel))
    intro l9 ep9 vs9 h9 tk9 nw9 st9 hI9 l9' F9 N9
    have e9 := TabHit.inv (TabHit.mono H1 (fun q hq => by k_mem)) (by assumption) st9
    subst e9
    clear st9
    rw [hfb] at hI9
    (try dsimp only)
    (try k_fold)
    repeat (first | (k_unfold; (try dsimp only)) | walk1 | (dsimp only; walk1))
    refine Held.mk ?_
    refine m_ne_ints (by assumption) (by k_mem) hI9 (ep := ep9) (eq := ps.length) (by k_mem) hIp (by (show callerA.units + _ + 64 < cLine); decide +kernel) ?_
    rw [decide_eq_true rfl]
    walk1
    walk1
    walk1
    walk1
    walk1
    dsimp only
    exact law_t7 B X T hI hIp hI0 hS hns (by assumption) (by assumption) (by k_mem) (by k_mem) (by k_mem) hoP (TabHit.mono H1 fun q hq => by k_mem) (TabHit.mono H2 fun q hq => by k_mem) rfl rfl rfl rfl
end Mine
end
section
open PySem PySem.W PyProof.Rows
set_option Elab.async false
set_option maxRecDepth 100000
set_option maxHeartbeats 8000000
set_option rowWalk.seconds 0
namespace Mine
theorem row2_ints {xs : List Int} {n : Nat} {ys : List Value} (h : Row2 (fun i a b => (∃ t, a = Value.int ((xs.getD i 0).fdiv 64) t) ∧ ∃ t, b = Value.int ((xs.getD i 0).fmod 64) t) n ys) : n ≤ xs.length → IntsAre ys (pl (xs.take n)) := by
  induction h with
  | nil => intro _; exact .nil
  | @snoc i ys a b _ hr ih =>
    intro hn
    obtain ⟨⟨t, rfl⟩, u, rfl⟩ := hr
    have e : xs[i]? = some (xs.getD i 0) := by
      rw [List.getD_eq_getElem?_getD, List.getElem?_eq_getElem (by (first | lia | omega))]
      rfl
    rw [List.take_add_one, e, pl_append]
    exact IntsAre.append (ih (by (first | lia | omega))) (.cons _ t (.cons _ u .nil))
theorem signs_len : (Str.ofString "ABCDEFGHIJKLMNOPQRSTUVWXYZabcdefghijklmnopqrstuvwxyz0123456789+/").length = 64 := by decide +kernel
theorem signs_all : ∀ n : Fin 64, Txt.item (Str.ofString "ABCDEFGHIJKLMNOPQRSTUVWXYZabcdefghijklmnopqrstuvwxyz0123456789+/") ((n.val : Nat) : Int) = chrS (code ((n.val : Nat) : Int)) := by decide +kernel
theorem signs_item (i : Int) (h0 : 0 ≤ i) (h1 : i < 64) : Txt.item (Str.ofString "ABCDEFGHIJKLMNOPQRSTUVWXYZabcdefghijklmnopqrstuvwxyz0123456789+/") i = chrS (code i) := by
  obtain ⟨n, rfl⟩ := Int.eq_ofNat_of_zero_le h0
  exact signs_all ⟨n, by (first | lia | omega)⟩
theorem law_t4 {w : World} {p : Program} {loose : List Str} {mean : ExcName → Option Value} {mg mb : Str → Option Value} {ns : List Int} {ys vs0 : List Value} {tn tt : Tok}
    {fa : Addr} {cd : Value} {base h₀ : Heap} {L R sc : Addr} {oA oB : Obj} {xA xB : Option Value} {m : Str → Option Value} {s : Shared} {rest : List (Addr × Obj)}
    (B : Below callerA base [] h₀) (X : (hd47.heap_39 w.params).In h₀) (T : Top p loose mean mg mb h₀)
    (hI : IntsAre ys (RR ns)) (hI0 : IntsAre vs0 ns) (hS : h₀.IsList sc vs0.toArray) (hns : ns.length ≤ 63)
    (F : Fr h₀ L s.heap m) (N : News h₀ L s.heap ((L + 1 + 1, oA) :: (L + 1, oB) :: rest)) (mR : (R, LCg.lst ys) ∈ rest) (hoA : oA.data = .cell xA) (hoB : oB.data = .cell xB)
    (hne1 : ∀ p ∈ rest, p.1 ≠ L + 1) (hne2 : ∀ p ∈ rest, p.1 ≠ L + 1 + 1)
    (H1 : TabHit 37 35 4 (inQ "_int2digits") rest) (H2 : TabHit 44 50 4 (inQ "_digits2int") rest)
    (m1 : m (Str.ofString "script") = some (.ref sc)) (m2 : m (Str.ofString "rights") = some (.ref R)) (m3 : m (Str.ofString "number") = some (.int (valD 12 (RR ns).reverse) tn)) (m4 : m (Str.ofString "text") = some (.str (txtOf (valD 12 (RR ns).reverse) (kk ns)) tt)) :
    wpAny (model PySem.Challenge.rw_of0047_01.row.prog w) (callerA.deeper (lawE L fa cd)) (execs (lawB 4) (lawE L fa cd)) (LawEnd h₀ L s) (fun _ _ => False) s := by
  have e : lawB 4 = lawN 4 :: lawN 5 :: lawB 6 := by kernel_rfl
  have e1 : lawN 4 = lawN 4 := rfl
  conv at e1 => rhs; whnf
  have e3 : lawN 5 = lawN 5 := rfl
  conv at e3 => rhs; whnf
  have e2 : scopeS lawS = scopeS lawS := rfl
  conv at e2 => rhs; whnf
  rw [chain_cons m1, chain_cons m2, chain_cons m3, chain_cons m4] at F
  clear m1 m2 m3 m4
  revert X
  k_fill
  intro X
  rw [e, e1, e3]
  unfold lawE
  rw [e2]
  clear e e1 e2 e3
  w_top on
  w_on
  k_with_none
  k_with "M" => (first | exact List.mem_cons_self | assumption | (refine' List.mem_cons_of_mem _ ?_; k_mem))
  k_with "U" => exact upd_of_updF (by assumption)
  k_with "A" => (first | with_reducible assumption | (refine all_ne_of_lt (by assumption) ?_; omega) | (refine all_ne_upd (by assumption) (by assumption) ?_; omega))
  k_with "execs cons" => ((with_reducible refine wpAny_execs_cons ?_); try dsimp only)
  k_with "eval ListComp" => ((with_reducible show wpAny _ _ (eval _ _) _ _ _); refine Held.out ?_)
  have hrl := rr_len ns
  have hkk := kk_range ns
  have hyl := IntsAre.length hI
  repeat (first | (k_unfold; (try dsimp only)) | walk1 | (dsimp only; walk1))
  refine Held.mk ?_
  k_dflt (refine' comp_pairs (hs := by intro _; rfl) (hs2 := by intro _ _; rfl) (R := fun i a b => (∃ t, a = Value.int (((RR ns).getD i 0).fdiv 64) t) ∧ ∃ t, b = Value.int (((RR ns).getD i 0).fmod 64) t) ?cF ?c1 ?c2 ?c3 ?c4 ?c5 ?c6 ?c7 ?_; (case cF => k_asm); (case c1 => exact rfl); (case c2 => decide); (case c3 => exact rfl); (case c4 => decide); (case c5 => exact rfl); (case c6 => exact rfl); (case c7 => decide))
  repeat (first | (k_unfold; (try dsimp only)) | walk1 | (dsimp only; walk1))
  refine ⟨R, ys.toArray, ys.length, _, rfl, rfl, by assumption, by assumption, by k_mem, ?z, ?el, ?fin⟩
  case z => rw [List.size_toArray, hyl]; (first | lia | omega)
  case el =>
    intro g i v I oI C oC D oD m₂ h tk E' hi hv hC hx F5 N5 off ne
    obtain ⟨t, rfl⟩ := ints_at hI (by simpa using hv)
    repeat (first | (k_unfold; (try dsimp only)) | walk1 | (dsimp only; walk1))
    exact ⟨_, _, _, _, _, rfl, rfl, by assumption, by assumption, ⟨_, rfl⟩, _, rfl⟩
  case fin =>
    intro D h' tk zs hr F5 N5 off
    have hIp := row2_ints hr (by rw [List.size_toArray, hyl]; exact Nat.le_refl _)
    rw [List.size_toArray, hyl, List.take_length] at hIp
    (try dsimp only)
    (try k_fold)
    have hD2 : @Ne Nat (L + 1 + 1) D := off _ List.mem_cons_self
    have hD1 : @Ne Nat (L + 1) D := off _ (.tail _ List.mem_cons_self)
    have hDr : ∀ p ∈ rest, p.1 ≠ D := fun p hp => off p (.tail _ (.tail _ hp))
    walk1
    (first | walk1 | (dsimp only; walk1))
    (first | walk1 | (dsimp only; walk1))
    (first | walk1 | (dsimp only; walk1))
    (first | walk1 | (dsimp only; walk1))
    (try dsimp only)
    rename_i dP _ _ _ _ dS
    exact law_t6 B X T hI hIp hI0 hS hns signs_len signs_item (by assumption) (by assumption) (by k_mem) (by k_mem) (by k_mem) dP (by k_mem) dS (TabHit.mono H1 fun q hq => by k_mem) (TabHit.mono H2 fun q hq => by k_mem) rfl rfl rfl rfl
end Mine
end
section
open PySem PySem.W PyProof.Rows
set_option Elab.async false
set_option maxRecDepth 100000
set_option maxHeartbeats 8000000
set_option rowWalk.seconds 0
namespace Mine
noncomputable def offCells (L : Addr) (p : Addr × Obj) : Bool := decide (p.1 ≠ L + 1) && decide (p.1 ≠ L + 1 + 1)
theorem offCells_iff {L : Addr} {p : Addr × Obj} : offCells L p = true ↔ p.1 ≠ L + 1 ∧ p.1 ≠ L + 1 + 1 := by
  unfold offCells
  rw [Bool.and_eq_true, decide_eq_true_iff, decide_eq_true_iff]
section
variable {h₀ h : Heap} {L : Addr} {news : List (Addr × Obj)} {oA oB : Obj} {xA xB : Option Value}
theorem cells_ledger (N : News h₀ L h news) (mA : (L + 1 + 1, oA) ∈ news) (mB : (L + 1, oB) ∈ news) : News h₀ L h ((L + 1 + 1, oA) :: (L + 1, oB) :: news.filter (offCells L)) := fun p hp => by
  rcases List.mem_cons.mp hp with rfl | hp
  · exact N _ mA
  · rcases List.mem_cons.mp hp with rfl | hp
    · exact N _ mB
    · exact N _ (List.mem_filter.mp hp).1
theorem cells_keep (N : News h₀ L h news) (mA : (L + 1 + 1, oA) ∈ news) (mB : (L + 1, oB) ∈ news) (hoA : oA.data = .cell xA) (hoB : oB.data = .cell xB) {a : Addr} {o : Obj} (hm : (a, o) ∈ news) (ho : ∀ x, o.data ≠ .cell x) : (a, o) ∈ news.filter (offCells L) := by
  refine List.mem_filter.mpr ⟨hm, offCells_iff.mpr ⟨?_, ?_⟩⟩
  · rintro rfl
    have e := (N _ hm).1
    rw [(N _ mB).1] at e
    have e9 : oB = o := Option.some.inj e
    exact ho xB (e9 ▸ hoB)
  · rintro rfl
    have e := (N _ hm).1
    rw [(N _ mA).1] at e
    have e9 : oA = o := Option.some.inj e
    exact ho xA (e9 ▸ hoA)
theorem cells_hit (N : News h₀ L h news) (mA : (L + 1 + 1, oA) ∈ news) (mB : (L + 1, oB) ∈ news) (hoA : oA.data = .cell xA) (hoB : oB.data = .cell xB) {P : Addr} {li co : Int} {q : Str} (H : TabHit P li co q news) : TabHit P li co q (news.filter (offCells L)) := by
  obtain ⟨c', oc, cvs, tq, k1, k2, k3, k4⟩ := H
  exact ⟨c', oc, cvs, tq, cells_keep N mA mB hoA hoB k1 (fun x hx => by cases hx), cells_keep N mA mB hoA hoB k2 (fun x hx => by rw [k3] at hx; cases hx), k3, k4⟩
end
theorem law_t3 {w : World} {p : Program} {loose : List Str} {mean : ExcName → Option Value} {mg mb : Str → Option Value} {ns : List Int} {ys vs0 : List Value} {tn : Tok}
    {fa : Addr} {cd : Value} {base h₀ : Heap} {L R sc : Addr} {oA oB : Obj} {xA xB : Option Value} {m : Str → Option Value} {s : Shared} {news : List (Addr × Obj)}
    (B : Below callerA base [] h₀) (X : (hd47.heap_39 w.params).In h₀) (T : Top p loose mean mg mb h₀)
    (hI : IntsAre ys (RR ns)) (hI0 : IntsAre vs0 ns) (hS : h₀.IsList sc vs0.toArray) (hns : ns.length ≤ 63)
    (F : Fr h₀ L s.heap m) (N : News h₀ L s.heap news) (mR : (R, LCg.lst ys) ∈ news) (mA : (L + 1 + 1, oA) ∈ news) (mB : (L + 1, oB) ∈ news) (hoA : oA.data = .cell xA) (hoB : oB.data = .cell xB)
    (H1 : TabReady 37 35 4 (inQ "_int2digits") news) (H2 : TabHit 44 50 4 (inQ "_digits2int") news) (hL : @LT.lt Nat _ 44 L)
    (m1 : m (Str.ofString "script") = some (.ref sc)) (m2 : m (Str.ofString "rights") = some (.ref R)) (m3 : m (Str.ofString "number") = some (.int (valD 12 (RR ns).reverse) tn)) :
    wpAny (model PySem.Challenge.rw_of0047_01.row.prog w) (callerA.deeper (lawE L fa cd)) (execs (lawB 3) (lawE L fa cd)) (LawEnd h₀ L s) (fun _ _ => False) s := by
  have e : lawB 3 = lawN 3 :: lawB 4 := by kernel_rfl
  have e1 : lawN 3 = lawN 3 := rfl
  conv at e1 => rhs; whnf
  have e2 : scopeS lawS = scopeS lawS := rfl
  conv at e2 => rhs; whnf
  rw [chain_cons m1, chain_cons m2, chain_cons m3] at F
  clear m1 m2 m3
  revert X
  k_fill
  intro X
  rw [e, e1]
  unfold lawE
  rw [e2]
  clear e e1 e2
  w_top on
  w_on
  k_with_none
  k_with "M" => (first | exact List.mem_cons_self | assumption | (refine' List.mem_cons_of_mem _ ?_; k_mem))
  k_with "U" => exact upd_of_updF (by assumption)
  k_with "A" => (first | with_reducible assumption | (refine all_ne_of_lt (by assumption) ?_; omega) | (refine all_ne_upd (by assumption) (by assumption) ?_; omega))
  k_with "execs cons" => ((with_reducible refine wpAny_execs_cons ?_); try dsimp only)
  k_with "call builtin:len" => (k_dflt (refine m_len (by assumption) (by k_mem) (by assumption) (by (first | lia | omega)) ?_); intro _ _)
  k_with "call ref" => ((with_reducible show wpAny _ _ (call (Value.ref _) _) _ _ _); refine Held.out ?_)
  have hrl := rr_len ns
  have hkk := kk_range ns
  have hnp := number_pos ns
  have hnl := number_lt ns
  have hbt : Builtin.Int.intBits (valD 12 (RR ns).reverse) ≤ 24 * kk ns := bits_lt (Int.le_of_lt hnp) hnl
  have hf : (((RR ns).length : Nat) : Int).fdiv 2 * 3 = ((3 * kk ns : Nat) : Int) := by rw [half_len]; (first | lia | omega)
  repeat (first | (k_unfold; (try dsimp only)) | walk1 | (dsimp only; walk1))
  refine Held.mk ?_
  k_dflt (refine' text_call (k := kk ns) ?x0 ?xb ?hk ?hf ?k1 ?k2 ?k3 ?k4 ?k5 ?kK ?hR ?kd ?ku ?_; (case x0 => exact Int.le_of_lt hnp); (case xb => exact hbt); (case hk => (first | lia | omega)); (case hf => exact hf); (case k1 => k_asm); (case k2 => k_asm); (case k3 => k_asm); (case k4 => k_asm); (case k5 => k_asm); (case kK => exact rfl); (case hR => exact H1); (case kd => decide +kernel); (case ku => decide +kernel))
  intro t9 h9 tk9 nw9 st9 F9 N9
  have hA37 : @Ne Nat (L + 1 + 1) 37 := by (first | lia | omega)
  have hB37 : @Ne Nat (L + 1) 37 := by (first | lia | omega)
  have mA9 := step_keep st9 mA hA37
  have mB9 := step_keep st9 mB hB37
  have hR37 : R ≠ 37 := by
    rcases H1 with ⟨g, U⟩ | ⟨c', oc, cvs, tq, k1, _⟩
    · exact news_ne N mR (updF_mem U) (by simp)
    · exact news_ne N mR k1 (by simp)
  have hne44 : (44 : Addr) ≠ 37 := by decide
  have mR9 := step_keep st9 mR hR37
  have H19 := step_hit st9
  have H29 : TabHit 44 50 4 (inQ "_digits2int") nw9 := by
    obtain ⟨c', oc, cvs, tq, k1, k2, k3, k4⟩ := H2
    refine ⟨c', oc, cvs, tq, step_keep st9 k1 hne44, step_keep st9 k2 ?_, k3, k4⟩
    rcases H1 with ⟨g, U⟩ | ⟨c2, oc2, cvs2, tq2, q1, _⟩
    · exact news_ne N k2 (updF_mem U) (fun q => by rw [q] at k3; cases k3; simp at k4)
    · exact news_ne N k2 q1 (fun q => by rw [q] at k3; cases k3; simp [rawInt] at k4)
  have N10 := cells_ledger N9 mA9 mB9
  have mR10 := cells_keep N9 mA9 mB9 hoA hoB mR9 (fun x hx => by cases hx)
  have H110 := cells_hit N9 mA9 mB9 hoA hoB H19
  have H210 := cells_hit N9 mA9 mB9 hoA hoB H29
  have hne1 : ∀ p ∈ nw9.filter (offCells L), p.1 ≠ L + 1 := fun p hp => (offCells_iff.mp (List.mem_filter.mp hp).2).1
  have hne2 : ∀ p ∈ nw9.filter (offCells L), p.1 ≠ L + 1 + 1 := fun p hp => (offCells_iff.mp (List.mem_filter.mp hp).2).2
  clear N N9 mR9 mA9 mB9 H19 H29 st9 H1 H2 mR mA mB
  generalize nw9.filter (offCells L) = rest at *
  (try dsimp only)
  (try k_fold)
  walk1
  (try dsimp only)
  exact law_t4 B X T hI hI0 hS hns (by assumption) (by assumption) mR10 hoA hoB hne1 hne2 H110 H210 rfl rfl rfl rfl
end Mine
end
section
open PySem PySem.W PyProof.Rows
set_option Elab.async false
set_option maxRecDepth 100000
set_option maxHeartbeats 8000000
set_option rowWalk.seconds 0
namespace Mine
theorem law_t0 {w : World} {p : Program} {loose : List Str} {mean : ExcName → Option Value} {mg mb : Str → Option Value} {ns : List Int} {vs0 : List Value}
    {fa : Addr} {cd : Value} {base h₀ : Heap} {L sc : Addr} {oA oB : Obj} {xA xB : Option Value} {m : Str → Option Value} {s : Shared}
    (B : Below callerA base [] h₀) (X : (hd47.heap_39 w.params).In h₀) (T : Top p loose mean mg mb h₀)
    (hI0 : IntsAre vs0 ns) (hS : h₀.IsList sc vs0.toArray) (hns : ns.length ≤ 63)
    (F : Fr h₀ L s.heap m) (N : News h₀ L s.heap [(L + 1 + 1, oA), (L + 1, oB), (37, tabObj #[]), (44, tabObj #[])]) (hoA : oA.data = .cell xA) (hoB : oB.data = .cell xB) (hL : @LT.lt Nat _ 44 L)
    (m1 : m (Str.ofString "script") = some (.ref sc)) :
    wpAny (model PySem.Challenge.rw_of0047_01.row.prog w) (callerA.deeper (lawE L fa cd)) (execs (lawB 0) (lawE L fa cd)) (LawEnd h₀ L s) (fun _ _ => False) s := by
  have e : lawB 0 = lawN 0 :: lawN 1 :: lawN 2 :: lawB 3 := by kernel_rfl
  have e1 : lawN 0 = lawN 0 := rfl
  conv at e1 => rhs; whnf
  have e3 : lawN 1 = lawN 1 := rfl
  conv at e3 => rhs; whnf
  have e4 : lawN 2 = lawN 2 := rfl
  conv at e4 => rhs; whnf
  have e2 : scopeS lawS = scopeS lawS := rfl
  conv at e2 => rhs; whnf
  rw [chain_cons m1] at F
  clear m1
  revert X
  k_fill
  intro X
  rw [e, e1, e3, e4]
  unfold lawE
  rw [e2]
  clear e e1 e2 e3 e4
  w_top on
  w_on
  k_with_none
  k_with "M" => (first | exact List.mem_cons_self | assumption | (refine' List.mem_cons_of_mem _ ?_; k_mem))
  k_with "U" => exact upd_of_updF (by assumption)
  k_with "A" => (first | with_reducible assumption | (refine all_ne_of_lt (by assumption) ?_; omega) | (refine all_ne_upd (by assumption) (by assumption) ?_; omega))
  k_with "execs cons" => ((with_reducible refine wpAny_execs_cons ?_); try dsimp only)
  k_with "call ref" => ((with_reducible show wpAny _ _ (call (Value.ref _) _) _ _ _); refine Held.out ?_)
  have hrl := rr_len ns
  have hkk := kk_range ns
  have hSg0 : (0 : Int) ≤ (((List.take 5 ns).length + (1 + 1 + 1 + 1 + 1) : Nat) : Int).fdiv 2 * 2 := by rw [Int.fdiv_eq_ediv_of_nonneg _ (by decide)]; (first | lia | omega)
  repeat (first | (k_unfold; (try dsimp only)) | walk1 | (dsimp only; walk1))
  refine Held.mk ?_
  rename_i hI8 hL8 R h7 tk7 o17 D ws h8 F8 N8 hIr hCr l1r
  have N2 : News h₀ L h8 ((44, tabObj #[]) :: (D, listOf ws.toArray 0) :: (R, LCg.lst ys) :: (L + 1 + 1, oA) :: (L + 1, oB) :: (37, tabObj #[]) :: []) := by
    refine cb_drop N8 ?_
    intro q hq
    repeat (rcases List.mem_cons.mp hq with rfl | hq; · k_mem)
    cases hq
  clear N8
  have hD44 : @LT.lt Nat _ 44 D := l1r.2.2.2.2.2.2.2.2
  have hD37 : @LT.lt Nat _ 37 D := l1r.2.2.2.2.2.2.2.1
  have hR44 : @Ne Nat R 44 := Ne.symm o17.2.2.2.2.2.2.2
  have hR37 : @Ne Nat R 37 := Ne.symm o17.2.2.2.2.2.2.1
  have hA44 : @Ne Nat (L + 1 + 1) 44 := Nat.ne_of_gt (Nat.lt_succ_of_lt (Nat.lt_succ_of_lt hL))
  have hB44 : @Ne Nat (L + 1) 44 := Nat.ne_of_gt (Nat.lt_succ_of_lt hL)
  have hA37 : @Ne Nat (L + 1 + 1) 37 := Nat.ne_of_gt (Nat.lt_trans (by decide) (Nat.lt_succ_of_lt (Nat.lt_succ_of_lt hL)))
  have hB37 : @Ne Nat (L + 1) 37 := Nat.ne_of_gt (Nat.lt_trans (by decide) (Nat.lt_succ_of_lt hL))
  have hne : ∀ p ∈ (D, listOf ws.toArray 0) :: (R, LCg.lst ys) :: (L + 1 + 1, oA) :: (L + 1, oB) :: (37, tabObj #[]) :: [], p.1 ≠ 44 := by
    intro q hq
    rcases List.mem_cons.mp hq with rfl | hq
    · exact Nat.ne_of_gt hD44
    rcases List.mem_cons.mp hq with rfl | hq
    · exact hR44
    rcases List.mem_cons.mp hq with rfl | hq
    · exact hA44
    rcases List.mem_cons.mp hq with rfl | hq
    · exact hB44
    rcases List.mem_cons.mp hq with rfl | hq
    · exact (by decide : (37 : Nat) ≠ 44)
    cases hq
  have hRd : TabReady 44 50 4 (inQ "_digits2int") ((44, tabObj #[]) :: (D, listOf ws.toArray 0) :: (R, LCg.lst ys) :: (L + 1 + 1, oA) :: (L + 1, oB) :: (37, tabObj #[]) :: []) := Or.inl ⟨_, UpdF.head hne⟩
  k_dflt (refine' d2i_call' (n := 12) (ns := (RR ns).reverse) ?q1 ?q2 ?q3 ?q4 ?q5 ?q6 ?k1 ?k2 ?k3 ?k4 ?k5 ?kK ?hR ?mL ?kd ?ku ?_; (case q1 => exact rfl); (case q2 => exact hIr); (case q3 => exact rr_ne ns); (case q4 => decide); (case q5 => exact rr_revlen ns); (case q6 => exact rr_rev ns); (case k1 => k_asm); (case k2 => k_asm); (case k3 => k_asm); (case k4 => exact N2); (case k5 => k_asm); (case kK => exact rfl); (case hR => exact hRd); (case mL => k_mem); (case kd => decide +kernel); (case ku => decide +kernel))
  intro t9 h9 tk9 nw9 st9 F9 N9
  have mR9 := step_keep st9 (p := (R, LCg.lst ys)) (by k_mem) hR44
  have mA9 := step_keep st9 (p := (L + 1 + 1, oA)) (by k_mem) hA44
  have mB9 := step_keep st9 (p := (L + 1, oB)) (by k_mem) hB44
  have m379 := step_keep st9 (p := (37, tabObj #[])) (by k_mem) (by decide)
  have H29 := step_hit st9
  clear st9 N2 hRd
  obtain ⟨c', oc, cvs, tq, k1, k2, k3, k4⟩ := H29
  have hc37 : c' ≠ 37 := news_ne N9 k2 m379 (fun q => by rw [q] at k3; cases k3; simp at k4)
  have N10 : News h₀ L h9 ((37, tabObj #[]) :: (c', oc) :: (44, tabObj #[rawInt 50, rawInt 4, .ref c']) :: (R, LCg.lst ys) :: (L + 1 + 1, oA) :: (L + 1, oB) :: []) := by
    refine cb_drop N9 ?_
    intro q hq
    repeat (rcases List.mem_cons.mp hq with rfl | hq; · assumption)
    cases hq
  have hne3 : ∀ p ∈ (c', oc) :: (44, tabObj #[rawInt 50, rawInt 4, .ref c']) :: (R, LCg.lst ys) :: (L + 1 + 1, oA) :: (L + 1, oB) :: [], p.1 ≠ 37 := by
    intro q hq
    rcases List.mem_cons.mp hq with rfl | hq
    · exact hc37
    rcases List.mem_cons.mp hq with rfl | hq
    · exact (by decide : (44 : Nat) ≠ 37)
    rcases List.mem_cons.mp hq with rfl | hq
    · exact hR37
    rcases List.mem_cons.mp hq with rfl | hq
    · exact hA37
    rcases List.mem_cons.mp hq with rfl | hq
    · exact hB37
    cases hq
  clear N9 mR9 mA9 mB9 m379
  (try dsimp only)
  (try k_fold)
  walk1
  (try dsimp only)
  exact law_t3 B X T hI8 hI0 hS hns (by assumption) (by assumption) (by k_mem) (by k_mem) (by k_mem) hoA hoB (Or.inl ⟨_, UpdF.head hne3⟩) ⟨c', oc, cvs, tq, by k_mem, by k_mem, k3, k4⟩ hL rfl rfl rfl
end Mine
end
section
open PySem PySem.W PyProof.Rows
set_option Elab.async false
set_option maxRecDepth 100000
set_option maxHeartbeats 8000000
set_option rowWalk.seconds 0
open Mine
theorem PySem.Challenge.cw_of0047_01_holds : PySem.Challenge.rw_of0047_01.Holds := by
  k_with_none
  refine hd47 (by
  w_on
  w_strict (
    k_go0
    (all_goals try k_fold)
    rename List Int => ns
    refine wpAny_mono (law_t0 (ns := ns) (by assumption) (by assumption) (by assumption) (by assumption) (by assumption) (by (first | lia | omega)) (by assumption) (by assumption) (by assumption) (by assumption) (by (first | lia | omega)) rfl) ?q1 ?q2
    case q2 => intro _ _ h; exact h.elim
    case q1 =>
      rintro f s' ⟨rfl, h', tk', m', news', rfl, F', N', ⟨a, ha⟩, b, hb⟩
      dsimp only
      refine ⟨⟨.inl ⟨.bool true, .bool true, [], rfl, ?p1, .bool true, ?p2, ?p3⟩, fun b o e => F'.keep b o e, rfl, by assumption⟩, GrownAt.of N' ha, GrownAt.of N' hb, True.intro⟩
      case p1 => intro cls; rfl
      case p2 => first | wrow_post | kc_post
      case p3 => intro _; exact ⟨List.nodup_nil, fun a ha => by cases ha⟩))
end
end
