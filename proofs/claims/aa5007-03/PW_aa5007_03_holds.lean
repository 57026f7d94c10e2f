import PyProof.Rows.All
import Wide.All
import OpenK.AllK
import Wide.FinOn
import PySem.Challenge.RW_aa5007_03
open PySem PySem.W PyProof.Rows PySem.Calls PySem.Spec
set_option Elab.async false
set_option maxRecDepth 100000
set_option maxHeartbeats 8000000
set_option linter.all false
set_option rowWalk.seconds 0
namespace Mine
open_top hd for PySem.Challenge.rw_aa5007_03
end Mine
local macro_rules | `(tactic| k_room) => `(tactic| (simp only [depth_mark, depth_under_make, depth_under_kw, depth_in1, depth_deeper, depth_caller, recursionLimit] at *; omega))
local macro_rules | `(tactic| k_units) => `(tactic| (simp only [units_under_make, units_in1, units_deeper, Around.mark_units, units_caller, cLine] at *; omega))
local macro_rules | `(tactic| walk_at "binaryOp LShift int int") => `(tactic| (k_here; (with_reducible refine lshift_int ?kbn ?kbs ?_); (case kbn => first | decide | omega | k_extra "shn"); (case kbs => first | k_extra "shl" | (refine Mine.shl_small ?_ ?_ ?_ <;> omega))))
local macro_rules | `(tactic| k_enter) => `(tactic| first
  | (refine' code_def ?k1 ?k2 ?k3 ?k4 ?k5 ?kA ?kF ?kK ?k6 ?k7 ?k8 ?k9 ?kB ?_ ?c2 ?c3 ?c4 ?c5; (case kA => exact rfl); (case kF => exact rfl); (case kK => first | exact rfl | assumption); (case k1 => k_asm); (case k2 => k_asm); (case k3 => k_asm); (case k4 => k_asm); (case k5 => k_asm); (case k6 => k_is); (case k7 => k_is); (case k8 => k_room); (case k9 => first | exact BindsTo.of_eq rfl | exact binds_K (by k_in) rfl (by k_is) rfl rfl rfl | fail "k_enter: no rule for these arguments"); (case c5 => decide); (case kB => exact locs rfl); (case c2 => exact rfl); (case c3 => exact rfl); (case c4 => exact rfl); k_whole; intro g' L' h' FG' F' N' B' X' T'; (try dsimp only); (try k_lift B'); (try k_fold))
  | (refine' code_defC ?k1 ?k2 ?k3 ?k4 ?k5 ?kA ?kF ?kK ?k6 ?k7 ?k8 ?k9 ?kB ?kD ?_ ?c2 ?c3 ?c4; (case kA => exact rfl); (case kF => exact rfl); (case kK => first | exact rfl | assumption); (case k1 => k_asm); (case k2 => k_asm); (case k3 => k_asm); (case k4 => k_asm); (case k5 => k_asm); (case k6 => k_is); (case k7 => k_is); (case k8 => k_room); (case k9 => first | exact BindsTo.of_eq rfl | exact binds_K (by k_in) rfl (by k_is) rfl rfl rfl | fail "k_enter: no rule for these arguments"); (case kB => exact rfl); (case kD => decide +kernel); (case c2 => exact rfl); (case c3 => exact rfl); (case c4 => exact rfl); k_whole; intro g' L' h' tk' cells' FG' F' N' Y' B' X' T' l1; (try k_lt l1); k_cells Y'; (try simp only [List.cons_append, List.nil_append] at N'); (try dsimp only); (try k_lift B'); (try k_fold)))
local macro_rules | `(tactic| k_all) => `(tactic| ((repeat (with_reducible rename _ ∧ _ => hh9; obtain ⟨_, _⟩ := hh9)); (repeat (with_reducible rename AllLt _ _ => hA9; first | (exact Mine.allNe_of hA9 (by omega); done) | clear hA9)); (repeat (with_reducible rename (∀ q : Addr × Obj, q ∈ _ → q.1 < _) => hA9; first | (exact Mine.allNe_of' hA9 (by omega); done) | clear hA9)); done))
local macro_rules | `(tactic| ktr_unf) => `(tactic| first
  | with_reducible exact rfl
  | with_reducible exact Mine.cx_lit _
  | (with_reducible refine' Mine.cx_mask ?cxa; (case cxa => ktr_unf))
  | (with_reducible refine' Mine.cx_shl ?cxa ?cxb; (case cxa => ktr_unf); (case cxb => ktr_unf))
  | (with_reducible refine' Mine.cx_sub ?cxa ?cxb ?cxc; (case cxa => ktr_unf); (case cxb => ktr_unf); (case cxc => omega)))
namespace Mine
theorem xor_add_and : ∀ (a b : Nat), (a ^^^ b) + 2 * (a &&& b) = a + b := by
  intro a
  induction a using Nat.strongRecOn with
  | _ a ih =>
    intro b
    by_cases h0 : a = 0
    · subst h0; simp
    · have h := ih (a / 2) (by omega) (b / 2)
      have e1 : (a ^^^ b) / 2 = a / 2 ^^^ b / 2 := Nat.xor_div_two
      have e2 : (a &&& b) / 2 = a / 2 &&& b / 2 := Nat.and_div_two
      have e3 : (a ^^^ b) % 2 = 1 ↔ ¬((a % 2 = 1) ↔ (b % 2 = 1)) := Nat.xor_mod_two_eq_one
      have e4 := @Nat.and_mod_two_eq_one a b
      rw [← e1, ← e2] at h
      by_cases ha : a % 2 = 1 <;> by_cases hb : b % 2 = 1 <;> simp only [ha, hb, iff_true, iff_false, not_true, not_false_iff, and_true, and_false, true_and, false_and, true_iff, false_iff] at e3 e4 <;> omega
theorem and_cast (a b : Nat) : Builtin.bitAnd (a : Int) (b : Int) = ((a &&& b : Nat) : Int) := by
  rw [bitAnd_pp (by omega) (by omega)]; rfl
theorem or_add_and (a b : Nat) : (a ||| b) + (a &&& b) = a + b := by
  induction a using Nat.strongRecOn generalizing b with
  | _ a ih =>
    by_cases h0 : a = 0
    · subst h0; simp
    · have h := ih (a / 2) (by omega) (b / 2)
      have e1 : (a ||| b) / 2 = a / 2 ||| b / 2 := Nat.or_div_two
      have e2 : (a &&& b) / 2 = a / 2 &&& b / 2 := Nat.and_div_two
      have e3 := @Nat.or_mod_two_eq_one a b
      have e4 := @Nat.and_mod_two_eq_one a b
      rw [← e1, ← e2] at h
      have m1 := Nat.mod_two_eq_zero_or_one a
      have m2 := Nat.mod_two_eq_zero_or_one b
      have m3 := Nat.mod_two_eq_zero_or_one (a ||| b)
      have m4 := Nat.mod_two_eq_zero_or_one (a &&& b)
      have e3a := e3.mp
      have e3b := e3.mpr
      have e4a := e4.mp
      have e4b := e4.mpr
      rcases m1 with m1 | m1 <;> rcases m2 with m2 | m2 <;> rcases m3 with m3 | m3 <;> rcases m4 with m4 | m4 <;> simp only [m1, m2, m3, m4] at e3a e3b e4a e4b <;> first | omega | (exfalso; simp at e3a e3b e4a e4b)
theorem or_cast (a b : Nat) : Builtin.bitOr (a : Int) (b : Int) = ((a ||| b : Nat) : Int) := by
  rw [bitOr_and, and_cast]; have := or_add_and a b; omega
theorem xor_cast (a b : Nat) : Builtin.bitXor (a : Int) (b : Int) = ((a ^^^ b : Nat) : Int) := by
  rw [bitXor_and, and_cast]; have := xor_add_and a b; omega
theorem pow_cast (k : Nat) : ((2 : Int) ^ k) = ((2 ^ k : Nat) : Int) := by simp
theorem shl_cast (a k : Nat) : (a : Int) * 2 ^ k = ((a <<< k : Nat) : Int) := by rw [Nat.shiftLeft_eq]; simp
theorem shr_cast (a k : Nat) : (a : Int).fdiv (2 ^ k) = ((a >>> k : Nat) : Int) := by
  rw [pow_cast, Nat.shiftRight_eq_div_pow, Int.fdiv_eq_ediv_of_nonneg _ (Int.natCast_nonneg _)]; simp
theorem fdiv_cast (a b : Nat) : (a : Int).fdiv (b : Int) = ((a / b : Nat) : Int) := by
  rw [Int.fdiv_eq_ediv_of_nonneg _ (by omega)]; simp
theorem fmod_cast (a b : Nat) : (a : Int).fmod (b : Int) = ((a % b : Nat) : Int) := by
  rw [Int.fmod_eq_emod_of_nonneg _ (by omega)]; simp
theorem shl_small {y : Int} {n : Int} (h0 : 0 ≤ y) (h : y < 2 ^ 64) (hn : n ≤ 1000) : (Builtin.Int.intBits y : Int) + n ≤ 2 ^ 27 := by
  have : Builtin.Int.intBits y ≤ 64 := PySem.intBits_le_iff.mpr (by omega)
  have e : (2 : Int) ^ 27 = 134217728 := by decide
  rw [e]; omega
theorem shl_bits {y : Nat} {k : Nat} {n : Int} (h : y < 2 ^ k) (hk : k ≤ 1000) (hn : n ≤ 1000) : (Builtin.Int.intBits (y : Int) : Int) + n ≤ 2 ^ 27 := by
  have : Builtin.Int.intBits (y : Int) ≤ k := PySem.intBits_le_iff.mpr (by simpa using h)
  have e : (2 : Int) ^ 27 = 134217728 := by decide
  rw [e]; omega
/-- the low k bits, the other way round -/
def brL : Nat → Nat → Nat
  | 0, _ => 0
  | k + 1, x => 2 * brL k x + (x >>> k) % 2
theorem brL_lt : ∀ k x, brL k x < 2 ^ k
  | 0, _ => by simp [brL]
  | k + 1, x => by have := brL_lt k x; rw [brL, Nat.pow_succ]; omega
theorem brL_turn (k x : Nat) : Builtin.bitOr (((brL k x : Nat) : Int) * 2 ^ Int.toNat 1) (Builtin.bitAnd ((x >>> k : Nat) : Int) 1) = ((brL (k + 1) x : Nat) : Int) := by
  rw [bitAnd_m1, show Int.toNat 1 = 1 from rfl, shl_cast]
  rw [show ((x >>> k : Nat) : Int) % 2 = (((x >>> k) % 2 : Nat) : Int) by omega, or_cast]
  congr 1
  have h := or_add_and ((brL k x) <<< 1) ((x >>> k) % 2)
  have h2 : (brL k x) <<< 1 &&& (x >>> k) % 2 = 0 := by
    apply Nat.eq_of_testBit_eq; intro i
    rw [Nat.testBit_and]
    cases i with
    | zero => simp
    | succ i =>
      have : ((x >>> k) % 2).testBit (i + 1) = false := Nat.testBit_lt_two_pow (Nat.lt_of_lt_of_le (Nat.mod_lt _ (by decide)) (by have := Nat.two_pow_pos i; rw [Nat.pow_succ]; omega))
      rw [this]; simp
  rw [h2, Nat.shiftLeft_eq] at h
  rw [brL, Nat.shiftLeft_eq]
  omega
theorem shr1_turn (k x : Nat) : ((x >>> k : Nat) : Int).fdiv (2 ^ Int.toNat 1) = ((x >>> (k + 1) : Nat) : Int) := by
  rw [show Int.toNat 1 = 1 from rfl, shr_cast, Nat.shiftRight_add]
end Mine
namespace Mine
theorem brL_add (a x : Nat) : ∀ b, brL (a + b) x = brL a x * 2 ^ b + brL b (x >>> a)
  | 0 => by simp [brL]
  | b + 1 => by
    have := brL_add a x b
    show 2 * brL (a + b) x + (x >>> (a + b)) % 2 = brL a x * 2 ^ (b + 1) + (2 * brL b (x >>> a) + (x >>> a >>> b) % 2)
    rw [this, Nat.pow_succ, Nat.shiftRight_add, Nat.mul_add, ← Nat.mul_assoc, Nat.mul_comm 2 (brL a x), Nat.mul_assoc, Nat.mul_comm 2 (2 ^ b), Nat.add_assoc]
theorem brL_low (j x : Nat) : ∀ k, k ≤ j → brL k (x % 2 ^ j) = brL k x
  | 0, _ => rfl
  | k + 1, h => by
    rw [brL, brL, brL_low j x k (by omega)]
    congr 1
    have e : ∀ y : Nat, (y >>> k) % 2 = (y.testBit k).toNat := fun y => by rw [Nat.testBit_eq_decide_div_mod_eq, Nat.shiftRight_eq_div_pow]; rcases Nat.mod_two_eq_zero_or_one (y / 2 ^ k) with h | h <;> simp [h]
    rw [e, e, Nat.testBit_mod_two_pow, decide_eq_true (by omega : k < j), Bool.true_and]
theorem and15 (z : Nat) : z &&& 15 = z % 16 := Nat.and_two_pow_sub_one_eq_mod z 4
theorem oct15_lt (z : Nat) : z &&& 15 < 16 := by rw [and15]; omega
theorem and255' (z : Nat) : z &&& 255 = z % 256 := Nat.and_two_pow_sub_one_eq_mod z 8
theorem oct4_lt (z : Nat) : (z &&& 255) >>> 4 < 16 := by rw [and255', Nat.shiftRight_eq_div_pow]; omega
theorem brL_octet (V k : Nat) : brL (8 * (k + 1)) V = brL (8 * k) V * 256 + brL 4 ((V >>> (8 * k) &&& 255) &&& 15) * 16 + brL 4 ((V >>> (8 * k) &&& 255) >>> 4) := by
  rw [Nat.mul_succ, brL_add, and255', and15, show (16 : Nat) = 2 ^ 4 from rfl, brL_low 4 _ 4 (Nat.le_refl _), show (256 : Nat) = 2 ^ 8 from rfl, brL_low 8 _ 4 (by decide)]
  generalize V >>> (8 * k) = y
  rw [show (8 : Nat) = 4 + 4 from rfl, brL_add 4 y 4]
  have : brL 4 ((y % 2 ^ (4 + 4)) >>> 4) = brL 4 (y >>> 4) := by
    rw [show (y % 2 ^ (4 + 4)) >>> 4 = (y >>> 4) % 2 ^ 4 by rw [Nat.shiftRight_eq_div_pow, Nat.shiftRight_eq_div_pow, show (2 : Nat) ^ (4 + 4) = 256 from rfl, show (2 : Nat) ^ 4 = 16 from rfl]; omega]
    exact brL_low 4 _ 4 (Nat.le_refl _)
  rw [this, Nat.add_assoc]
end Mine
namespace Mine
def itn {α : Type} : Nat → (α → α) → α → α
  | 0, _, x => x
  | k + 1, f, x => f (itn k f x)
/-- one bit of a sum, the highest first -/
def bfs (q n : Nat) (c : Nat) : Nat := if c.testBit (n - 1) then (2 * c) ^^^ q else 2 * c
/-- one bit of a sum, the lowest first -/
def bfr (q : Nat) (c : Nat) : Nat := if c % 2 = 1 then (c / 2) ^^^ q else c / 2
theorem xor_lt {a b k : Nat} (ha : a < 2 ^ k) (hb : b < 2 ^ k) : a ^^^ b < 2 ^ k := Nat.xor_lt_two_pow ha hb
theorem bfs_lt {q n k c : Nat} (hq : q < 2 ^ (k + 1)) (hc : c < 2 ^ k) : bfs q n c < 2 ^ (k + 1) := by
  unfold bfs
  have : 2 * c < 2 ^ (k + 1) := by rw [Nat.pow_succ]; omega
  split
  · exact xor_lt this hq
  · exact this
theorem bfr_lt {q n c : Nat} (hq : q < 2 ^ n) (hc : c < 2 ^ n) : bfr q c < 2 ^ n := by
  unfold bfr
  have : c / 2 < 2 ^ n := by omega
  split
  · exact xor_lt this hq
  · exact this
theorem itn_bfs_lt {q n c : Nat} (hq : q < 2 ^ n) (hc : c < 2 ^ n) : ∀ k, itn k (bfs q n) c < 2 ^ (n + k)
  | 0 => hc
  | k + 1 => bfs_lt (k := n + k) (Nat.lt_of_lt_of_le hq (Nat.pow_le_pow_right (by decide) (show n ≤ n + k + 1 by omega))) (itn_bfs_lt hq hc k)
theorem itn_bfr_lt {q n c : Nat} (hq : q < 2 ^ n) (hc : c < 2 ^ n) : ∀ k, itn k (bfr q) c < 2 ^ n
  | 0 => hc
  | k + 1 => bfr_lt hq (itn_bfr_lt hq hc k)
theorem and_bit (c k : Nat) : (c &&& 2 ^ k ≠ 0) ↔ c.testBit k = true := by
  rw [PySem.W.kbt_nat]
  rw [Nat.testBit_eq_decide_div_mod_eq, decide_eq_true_eq]
  have hp := Nat.two_pow_pos k
  rcases Nat.mod_two_eq_zero_or_one (c / 2 ^ k) with h | h <;> rw [h] <;> simp
def BcInv (q n c0 : Nat) (pre : List Int) (crc : Int) : Prop := crc = ((itn pre.length (bfs q n) c0 : Nat) : Int) ∧ pre.length ≤ 8
theorem BcInv.start {q n c : Nat} : BcInv q n c [] (c : Int) := ⟨rfl, by simp⟩
theorem bc_mask (c n : Nat) (h : 8 ≤ n) : Builtin.bitAnd (c : Int) (1 * 2 ^ ((n : Int) - 1).toNat) = ((c &&& 2 ^ (n - 1) : Nat) : Int) := by
  rw [Int.one_mul, pow_cast, and_cast, show ((n : Int) - 1).toNat = n - 1 by omega]
theorem BcInv.yes {q n c0 : Nat} {pre : List Int} {crc k : Int} (h : BcInv q n c0 pre crc) (hn : 8 ≤ n) (hl : pre.length < 8) (hb : Builtin.bitAnd crc (1 * 2 ^ ((n : Int) - 1).toNat) ≠ 0) :
    BcInv q n c0 (pre ++ [k]) (Builtin.bitXor (crc * 2 ^ Int.toNat 1) (q : Int)) := by
  obtain ⟨h1, h2⟩ := h
  subst h1
  rw [bc_mask _ _ hn] at hb
  have hb' : itn pre.length (bfs q n) c0 &&& 2 ^ (n - 1) ≠ 0 := by omega
  rw [and_bit] at hb'
  refine ⟨?_, by simp; omega⟩
  rw [show Int.toNat 1 = 1 from rfl, shl_cast, xor_cast]
  simp only [List.length_append, List.length_cons, List.length_nil, itn]
  rw [bfs, if_pos hb', Nat.shiftLeft_eq, Nat.mul_comm]
theorem BcInv.no {q n c0 : Nat} {pre : List Int} {crc k : Int} (h : BcInv q n c0 pre crc) (hn : 8 ≤ n) (hl : pre.length < 8) (hb : Builtin.bitAnd crc (1 * 2 ^ ((n : Int) - 1).toNat) = 0) :
    BcInv q n c0 (pre ++ [k]) (crc * 2 ^ Int.toNat 1) := by
  obtain ⟨h1, h2⟩ := h
  subst h1
  rw [bc_mask _ _ hn] at hb
  have hb' : ¬ (itn pre.length (bfs q n) c0 &&& 2 ^ (n - 1) ≠ 0) := by omega
  rw [and_bit] at hb'
  refine ⟨?_, by simp; omega⟩
  rw [show Int.toNat 1 = 1 from rfl, shl_cast]
  simp only [List.length_append, List.length_cons, List.length_nil, itn]
  rw [bfs, if_neg hb', Nat.shiftLeft_eq, Nat.mul_comm]
theorem BcInv.shl {q N c0 : Nat} {pre : List Int} {crc n : Int} (h : BcInv q N c0 pre crc) (hN : N ≤ 64) (hq : q < 2 ^ N) (hc : c0 < 2 ^ N) (hn : n ≤ 1000) : (Builtin.Int.intBits crc : Int) + n ≤ 2 ^ 27 := by
  obtain ⟨h1, h2⟩ := h
  subst h1
  exact shl_bits (itn_bfs_lt hq hc _) (by omega) hn
theorem mask_mod (c n : Nat) : Builtin.bitAnd (c : Int) (1 * 2 ^ (n : Int).toNat - 1) = ((c % 2 ^ n : Nat) : Int) := by
  rw [Int.one_mul, show (n : Int).toNat = n by omega, PySem.W.kbt_mask, pow_cast]; omega
theorem mask_any (c : Int) (n : Nat) : Builtin.bitAnd c (1 * 2 ^ (n : Int).toNat - 1) = c % 2 ^ n := by
  rw [Int.one_mul, show (n : Int).toNat = n by omega, PySem.W.kbt_mask]
theorem BcInv.fin {q n c0 : Nat} {crc : Int} (h : BcInv q n c0 (rangeKs 0 (8 - 0 : Int).toNat) crc) : Builtin.bitAnd crc (1 * 2 ^ (n : Int).toNat - 1) = ((itn 8 (bfs q n) c0 % 2 ^ n : Nat) : Int) := by
  have := h.1
  rw [rangeKs_length] at this
  rw [this, mask_mod]; rfl
def BrvInv (q n c0 : Nat) (pre : List Int) (crc : Int) : Prop := crc = ((itn pre.length (bfr q) c0 : Nat) : Int) ∧ pre.length ≤ 8
theorem BrvInv.start {q n c : Nat} : BrvInv q n c [] (c : Int) := ⟨rfl, by simp⟩
theorem BrvInv.yes {q n c0 : Nat} {pre : List Int} {crc k : Int} (h : BrvInv q n c0 pre crc) (hl : pre.length < 8) (hb : Builtin.bitAnd crc 1 ≠ 0) :
    BrvInv q n c0 (pre ++ [k]) (Builtin.bitXor (crc.fdiv (2 ^ Int.toNat 1)) (q : Int)) := by
  obtain ⟨h1, h2⟩ := h
  subst h1
  rw [bitAnd_m1] at hb
  refine ⟨?_, by simp; omega⟩
  rw [show Int.toNat 1 = 1 from rfl, shr_cast, xor_cast]
  simp only [List.length_append, List.length_cons, List.length_nil, itn]
  rw [bfr, if_pos (by omega), Nat.shiftRight_eq_div_pow]
theorem BrvInv.no {q n c0 : Nat} {pre : List Int} {crc k : Int} (h : BrvInv q n c0 pre crc) (hl : pre.length < 8) (hb : Builtin.bitAnd crc 1 = 0) :
    BrvInv q n c0 (pre ++ [k]) (crc.fdiv (2 ^ Int.toNat 1)) := by
  obtain ⟨h1, h2⟩ := h
  subst h1
  rw [bitAnd_m1] at hb
  refine ⟨?_, by simp; omega⟩
  rw [show Int.toNat 1 = 1 from rfl, shr_cast]
  simp only [List.length_append, List.length_cons, List.length_nil, itn]
  rw [bfr, if_neg (by omega), Nat.shiftRight_eq_div_pow]
theorem BrvInv.fin {q n c0 : Nat} {crc : Int} (h : BrvInv q n c0 (rangeKs 0 (8 - 0 : Int).toNat) crc) (hq : q < 2 ^ n) (hc : c0 < 2 ^ n) : Builtin.bitAnd crc (1 * 2 ^ (n : Int).toNat - 1) = ((itn 8 (bfr q) c0 : Nat) : Int) := by
  have := h.1
  rw [rangeKs_length] at this
  rw [this, mask_mod, Nat.mod_eq_of_lt]
  · rfl
  · exact itn_bfr_lt hq hc _
end Mine
namespace Mine
theorem allNe_of {d b : Nat} {l : List (Addr × Obj)} (h : AllLt d l) (hb : d ≤ b) : ∀ p ∈ l, p.1 ≠ b := by
  induction l with
  | nil => intro p hp; cases hp
  | cons q r ih =>
    intro p hp
    rcases List.mem_cons.mp hp with rfl | hp
    · exact Nat.ne_of_lt (Nat.lt_of_lt_of_le h.1 hb)
    · exact ih h.2 p hp
theorem allNe_of' {d b : Nat} {l : List (Addr × Obj)} (h : ∀ q : Addr × Obj, q ∈ l → q.1 < d) (hb : d ≤ b) : ∀ p ∈ l, p.1 ≠ b := fun p hp => Nat.ne_of_lt (Nat.lt_of_lt_of_le (h p hp) hb)
theorem lt_of_all {d : Nat} {l : List (Addr × Obj)} (h : AllLt d l) : ∀ p ∈ l, p.1 < d := by
  induction l with
  | nil => intro p hp; cases hp
  | cons q r ih =>
    intro p hp
    rcases List.mem_cons.mp hp with rfl | hp
    · exact h.1
    · exact ih h.2 p hp
theorem cx_lit (n : Nat) : ((OfNat.ofNat n : Int)) = ((n : Nat) : Int) := rfl
theorem cx_xor {a b : Int} {A B : Nat} (ha : a = (A : Int)) (hb : b = (B : Int)) : Builtin.bitXor a b = ((A ^^^ B : Nat) : Int) := by subst ha hb; exact xor_cast A B
theorem cx_and {a b : Int} {A B : Nat} (ha : a = (A : Int)) (hb : b = (B : Int)) : Builtin.bitAnd a b = ((A &&& B : Nat) : Int) := by subst ha hb; exact and_cast A B
theorem cx_or {a b : Int} {A B : Nat} (ha : a = (A : Int)) (hb : b = (B : Int)) : Builtin.bitOr a b = ((A ||| B : Nat) : Int) := by subst ha hb; exact or_cast A B
theorem cx_add {a b : Int} {A B : Nat} (ha : a = (A : Int)) (hb : b = (B : Int)) : a + b = ((A + B : Nat) : Int) := by subst ha hb; simp
theorem cx_mul {a b : Int} {A B : Nat} (ha : a = (A : Int)) (hb : b = (B : Int)) : a * b = ((A * B : Nat) : Int) := by subst ha hb; simp
theorem cx_mod {a b : Int} {A B : Nat} (ha : a = (A : Int)) (hb : b = (B : Int)) : a.fmod b = ((A % B : Nat) : Int) := by subst ha hb; exact fmod_cast A B
theorem cx_div {a b : Int} {A B : Nat} (ha : a = (A : Int)) (hb : b = (B : Int)) : a.fdiv b = ((A / B : Nat) : Int) := by subst ha hb; exact fdiv_cast A B
theorem cx_shl {a n : Int} {A N : Nat} (ha : a = (A : Int)) (hn : n = (N : Int)) : a * 2 ^ n.toNat = ((A <<< N : Nat) : Int) := by subst ha hn; exact shl_cast A N
theorem cx_shr {a n : Int} {A N : Nat} (ha : a = (A : Int)) (hn : n = (N : Int)) : a.fdiv (2 ^ n.toNat) = ((A >>> N : Nat) : Int) := by subst ha hn; exact shr_cast A N
theorem cx_pow {a n : Int} {A N : Nat} (ha : a = (A : Int)) (hn : n = (N : Int)) : a ^ n.toNat = ((A ^ N : Nat) : Int) := by subst ha hn; simp
theorem cx_sub {a b : Int} {A B : Nat} (ha : a = (A : Int)) (hb : b = (B : Int)) (h : B ≤ A) : a - b = ((A - B : Nat) : Int) := by subst ha hb; omega
end Mine
namespace Mine
theorem cx_mask {c : Int} {C N : Nat} (hc : c = (C : Int)) : Builtin.bitAnd c (1 * 2 ^ (N : Int).toNat - 1) = ((C % 2 ^ N : Nat) : Int) := by subst hc; exact mask_mod C N
theorem pow8 {N : Nat} (h : 8 ≤ N) : 2 ^ N = 256 * 2 ^ (N - 8) := by
  rw [show (256 : Nat) = 2 ^ 8 from rfl, ← Nat.pow_add]; congr 1; omega
theorem shl_lt {k N : Nat} (hk : k < 256) (h : 8 ≤ N) : k <<< (N - 8) < 2 ^ N := by
  rw [Nat.shiftLeft_eq, pow8 h]
  exact Nat.mul_lt_mul_of_pos_right hk (Nat.two_pow_pos _)
/-- one bit's row of the table -/
def rowF (P n k : Nat) : Nat := itn 8 (bfs (P % 2 ^ n) n) (k <<< (n - 8)) % 2 ^ n
def rowR (P n k : Nat) : Nat := itn 8 (bfr (brL n (P % 2 ^ n))) k
/-- the table out of the rows of the single bits, j of them taken -/
def tabRows (f : Nat → Nat) (j : Nat) : List Nat := ([1, 2, 4, 8, 16, 32, 64, 128].take j).foldl (fun rows k => rows ++ rows.map (f k ^^^ ·)) [0]
def tabOf (f : Nat → Nat) : List Nat := tabRows f 8
theorem tabRows_succ {f : Nat → Nat} {j k : Nat} (h : [1, 2, 4, 8, 16, 32, 64, 128][j]? = some k) : tabRows f (j + 1) = tabRows f j ++ (tabRows f j).map (f k ^^^ ·) := by
  unfold tabRows
  rw [List.take_add_one, h]
  simp
theorem tabRows_len (f : Nat → Nat) : ∀ j, j ≤ 8 → (tabRows f j).length = 2 ^ j := by
  intro j
  induction j with
  | zero => intro _; rfl
  | succ j ih =>
    intro hj
    have : ∃ k, [1, 2, 4, 8, 16, 32, 64, 128][j]? = some k := ⟨_, List.getElem?_eq_getElem (by simp; omega)⟩
    obtain ⟨k, hk⟩ := this
    rw [tabRows_succ hk, List.length_append, List.length_map, ih (by omega), Nat.pow_succ]; omega
theorem ints8 {t1 t2 t3 t4 t5 t6 t7 t8 : Tok} {i : Nat} {v : Value} (hi : i < 8) (hv : (#[Value.int 1 t1, .int 2 t2, .int 4 t3, .int 8 t4, .int 16 t5, .int 32 t6, .int 64 t7, .int 128 t8] : Array Value)[i]? = some v) :
    ∃ k t, ([1, 2, 4, 8, 16, 32, 64, 128] : List Int)[i]? = some k ∧ v = .int k t := by
  have : i = 0 ∨ i = 1 ∨ i = 2 ∨ i = 3 ∨ i = 4 ∨ i = 5 ∨ i = 6 ∨ i = 7 := by omega
  rcases this with rfl | rfl | rfl | rfl | rfl | rfl | rfl | rfl <;> (simp at hv; exact ⟨_, _, rfl, hv.symm⟩)
end Mine
namespace Mine
/-- an int, cut to its low n bits -/
def mskN (i : Int) (n : Nat) : Nat := (i % 2 ^ n).toNat
theorem mskN_cast (i : Int) (n : Nat) : ((mskN i n : Nat) : Int) = i % 2 ^ n := by
  unfold mskN
  have := Int.emod_nonneg i (show (2 : Int) ^ n ≠ 0 by have := PySem.W.kbt_pos n; omega)
  omega
theorem mskN_and (i : Int) (n : Nat) : Builtin.bitAnd i (1 * 2 ^ (n : Int).toNat - 1) = ((mskN i n : Nat) : Int) := by rw [mask_any, mskN_cast]
theorem mskN_lt (i : Int) (n : Nat) : mskN i n < 2 ^ n := by
  have h := mskN_cast i n
  have h2 := Int.emod_lt_of_pos i (PySem.W.kbt_pos n)
  rw [← h, pow_cast] at h2
  omega
end Mine
namespace Mine
theorem slot_bytes_join : Slot "bytes" "join" "bytes.join" :=
  .of (owner := "bytes") (n := "join") (by rw [typeLookup_type, builtinLookup_eq_fast]; kernel_rfl) (by decide +kernel) (by decide +kernel) (by decide +kernel)
    (by first | exact .inl (by decide +kernel) | exact .inr (by decide +kernel)) (by rw [isSubtype_type]; kernel_rfl)
theorem type_bytes_join : typeOf (.builtin "bytes.join") = pure (.type "method_descriptor") := by show builtinType _ = _; rw [builtinType_eq_fast]; kernel_rfl
theorem entry_bytes_join : entryFor table "bytes.join" = some Builtin.«bytes.join» := entryFor_of_tree (by kernel_rfl)
theorem args_bytes_join_2 (a b : Value) : argsOk "bytes.join" ⟨[a, b], []⟩ := by unfold argsOk; kernel_rfl
theorem getMethod_join {M : Model} {A : Around} {E : Value → Shared → Prop} {s : Shared} {b : Array UInt8} {t : Tok} {pl : Sem Bool} {Q : Value × List Value → Shared → Prop} (h : Q (.builtin "bytes.join", [.bytes b t]) s) :
    wpAny M A (getMethod (.bytes b t) "join" pl) Q E s := by
  exact KBd.method_of (.bytes b t) (typeIs_bytes _ _ _) slot_bytes_join type_bytes_join KBd.noRef h
theorem call_join_one {prog : Program} {w : World} {A : Around} {E : Value → Shared → Prop} {s : Shared} {b c : Array UInt8} {t u : Tok} {l : Addr} {n : Nat} {h₀ : Heap} {L : Addr} {news : List (Addr × Obj)} {Q : Value → Shared → Prop}
    (N : News h₀ L s.heap news) (hm : (l, PySem.W.listOf #[.bytes c u] n) ∈ news) (h : Q (.bytes c u) s) : wpAny (model prog w) A (call (.builtin "bytes.join") [.bytes b t, .ref l]) Q E s := by
  have ho := (N _ hm).1
  have hT : s.TypeIs (.ref l) "list" := ⟨_, ho, rfl⟩
  have hTb : s.TypeIs (.bytes c u) "bytes" := typeIs_bytes _ _ _
  refine wpAny_call (codeAny_call_builtin slot_bytes_join.plain entry_bytes_join (slot_bytes_join.check _ _ _ _ _ _ _ _ (typeIs_bytes _ _ _) (args_bytes_join_2 _ _) ?_))
  show wpAny _ _ (selfAndOne _ _ >>= _) _ _ _
  refine wpAny_bind (wpAny_pure ?_)
  show wpAny _ _ (Builtin.Bytes.joinItems (.ref l) >>= _) _ _ _
  refine wpAny_bind ?_
  · show wpAny _ _ (typeOf (.ref l) >>= _) _ _ _
    refine wpAny_bind (wpAny_typeOf hT ?_)
    rw [if_pos (by rfl)]
    refine wpAny_pure ?_
    refine wpAny_bind (wpAny_seqItems ho rfl ?_)
    show wpAny _ _ (typeOf (.bytes c u) >>= _) _ _ s
    refine wpAny_bind (wpAny_typeOf hTb ?_)
    rw [if_pos (by rfl)]
    refine wpAny_bind (wpAny_rule ?_)
    refine wpAny_bind (wpAny_pure ?_)
    exact wpAny_pure h
theorem entry_reduce : entryFor table "_functools.reduce" = some Builtin.«_functools.reduce» := entryFor_of_tree (by kernel_rfl)
theorem entry_reduce_loop : entryFor table "_functools.reduce.loop" = some Builtin.«_functools.reduce.loop» := entryFor_of_tree (by kernel_rfl)
theorem kind_reduce : builtinKind "_functools.reduce" = none := by decide +kernel
theorem plain_reduce : plainId "_functools.reduce" = true := by decide +kernel
theorem plain_reduce_loop : plainId "_functools.reduce.loop" = true := by decide +kernel
theorem args_reduce (a b c : Value) : argsOk "_functools.reduce" ⟨[a, b, c], []⟩ := by unfold argsOk; kernel_rfl
section
variable {prog : Program} {w : World} {A : Around} {E : Value → Shared → Prop} {s : Shared} {h₀ : Heap} {L l I S O : Addr} {m : Str → Option Value} {vs : List Value} {R : Result → Shared → Prop} {fv init : Value}
theorem reduce_loop (J : Nat → Value → List (Addr × Obj) → Prop) (hh : A.handled = none)
    (hl : ∀ j r nw, J j r nw → ∀ h, News h₀ L h nw → h.IsList l vs.toArray)
    (hO : ∀ j r nw, J j r nw → (O, seqObj "tuple" #[fv, .ref l, init] 0) ∈ nw) (hlI : l ≠ I) (hSI : S ≠ I)
    (turn : ∀ j r x nw h tk own, vs[j]? = some x → J j r nw → Fr h₀ L h m → News h₀ L h (nw ++ own) → own.map (·.1) = [S, I] →
      wpAny (model prog w) A.in1 (call fv [r, x]) (fun r' s' => ∃ nw' h' tk', s' = { s with heap := h', toks := tk' } ∧ Fr h₀ L h' m ∧ News h₀ L h' (nw' ++ own) ∧ J (j + 1) r' nw' ∧ ∀ p ∈ nw', p ∈ nw ∨ ∀ q ∈ own, q.1 < p.1) (fun _ _ => False) { s with heap := h, toks := tk })
    (done : ∀ r nw h tk, J vs.length r nw → Fr h₀ L h m → News h₀ L h nw → R (.ok (.ret r)) { s with heap := h, toks := tk }) :
    ∀ (k j : Nat) (r : Value) (nw : List (Addr × Obj)) (h : Heap) (tk : Nat) (a b : Value) (oI : Obj), vs.length - j = k → j ≤ vs.length → J j r nw → (∀ p ∈ nw, p.1 ≠ S ∧ p.1 ≠ I) → Fr h₀ L h m →
      News h₀ L h (nw ++ [(S, seqObj "tuple" #[a, b] 0), (I, oI)]) → h.IsListIter I l j →
      codeAny (model prog w) A (.builtin "_functools.reduce.loop" ⟨[.ref S, .ref I, .ref O, r], []⟩) R { s with heap := h, toks := tk } := by
  have W := Walks.list (prog := prog) (w := w) (A := A.in1) hh I l hlI vs.toArray
  have hsz : vs.toArray.size = vs.length := List.size_toArray ..
  intro k
  induction k with
  | zero =>
    intro j r nw h tk a b oI hk hj hJ hoff F N hit
    have ej : j = vs.length := by omega
    subst ej
    have nS := N (S, seqObj "tuple" #[a, b] 0) (List.mem_append_right _ (.head _))
    have nI := N (I, oI) (List.mem_append_right _ (.tail _ (.head _)))
    have Nn : News h₀ L h nw := fun p hp => N p (List.mem_append_left _ hp)
    have nO := Nn _ (hO _ _ _ hJ)
    refine codeAny_builtin entry_reduce_loop ?_
    rw [Around.under_plainId plain_reduce_loop _]
    show wpAny _ A.in1 (seqItems? (.ref O) >>= _) _ _ _
    refine wpAny_bind (wpAny_seqItems nO.1 rfl ?_)
    show wpAny _ A.in1 (pyNext (.ref I) >>= _) _ _ _
    refine wpAny_bind (W.done _ _ _ ⟨by rw [hsz]; exact hit, hl _ _ _ hJ h Nn⟩ fun h' tk' hk' => ?_)
    have F1 := kmk_fr F hk' nI.2.1 nI.2.2
    have N1 := kmk_news Nn hk' (fun p hp => (hoff p hp).2)
    exact wpAny_pure (done _ _ _ _ hJ F1 N1)
  | succ k ih =>
    intro j r nw h tk a b oI hk hj hJ hoff F N hit
    have hlt : j < vs.length := by omega
    have nS := N (S, seqObj "tuple" #[a, b] 0) (List.mem_append_right _ (.head _))
    have nI := N (I, oI) (List.mem_append_right _ (.tail _ (.head _)))
    have Nn : News h₀ L h nw := fun p hp => N p (List.mem_append_left _ hp)
    have nO := Nn _ (hO _ _ _ hJ)
    refine codeAny_builtin entry_reduce_loop ?_
    rw [Around.under_plainId plain_reduce_loop _]
    show wpAny _ A.in1 (seqItems? (.ref O) >>= _) _ _ _
    refine wpAny_bind (wpAny_seqItems nO.1 rfl ?_)
    show wpAny _ A.in1 (pyNext (.ref I) >>= _) _ _ _
    refine wpAny_bind (W.item j _ _ _ (by rw [hsz]; exact hlt) ⟨hit, hl _ _ _ hJ h Nn⟩ fun x h' tk' hP hst' hk' => ?_)
    have hx : vs[j]? = some x := by simpa using hP
    obtain ⟨oI', hoI', hoc, hod⟩ := id hst'.1
    have F1 := kmk_fr F hk' nI.2.1 nI.2.2
    have N1 := kmk_news Nn hk' (fun p hp => (hoff p hp).2)
    have nS1 : h'.get? S = some (seqObj "tuple" #[a, b] 0) := hk' S _ (by simpa using hSI) nS.1
    show wpAny _ A.in1 (seqItems? (.ref S) >>= _) _ _ _
    refine wpAny_bind (wpAny_seqItems nS1 rfl ?_)
    show wpAny _ A.in1 (updateSeq S (·.setIfInBounds 0 r) >>= _) _ _ _
    refine wpAny_bind (wpAny_updateSeq_pair (a := a) (b := b) nS1 fun h2 hS2 s2 => ?_)
    refine wpAny_bind (wpAny_letGo ?_)
    show wpAny _ A.in1 (updateSeq S (·.setIfInBounds 1 x) >>= _) _ _ _
    refine wpAny_bind (wpAny_updateSeq_pair (a := r) (b := b) (hS2.trans (by rfl)) fun h3 hS3 s3 => ?_)
    refine wpAny_bind (wpAny_letGo ?_)
    have F3 := ksk_fr (ksk_fr F1 s2 nS.2.1 nS.2.2) s3 nS.2.1 nS.2.2
    have N3 := ksk_news (ksk_news N1 s2 fun p hp => (hoff p hp).1) s3 fun p hp => (hoff p hp).1
    have hI3 : h3.get? I = some oI' := (s3.2 I hSI.symm).trans ((s2.2 I hSI.symm).trans hoI')
    have hS3' : h3.get? S = some (seqObj "tuple" #[r, x] 0) := hS3.trans (by rfl)
    have NA : News h₀ L h3 (nw ++ [(S, seqObj "tuple" #[r, x] 0), (I, oI')]) := fun p hp => by
      rcases List.mem_append.mp hp with hp | hp
      · exact N3 p hp
      · rcases List.mem_cons.mp hp with rfl | hp
        · exact ⟨hS3', nS.2⟩
        · rw [List.mem_singleton.mp hp]; exact ⟨hI3, nI.2⟩
    refine wpAny_bind (wpAny_mono (turn j r x nw h3 _ _ hx hJ F3 NA rfl) (fun r' s' hr => ?_) fun _ _ hF => hF.elim)
    obtain ⟨nw', h4, tk4, rfl, F4, N4, hJ4, hnew⟩ := hr
    have nS4 := N4 (S, seqObj "tuple" #[r, x] 0) (List.mem_append_right _ (.head _))
    have nI4 := N4 (I, oI') (List.mem_append_right _ (.tail _ (.head _)))
    refine wpAny_pure ⟨plainId_quiet plain_reduce_loop _, ih (j + 1) r' nw' h4 tk4 r x oI' (by omega) hlt hJ4 (fun p hp => ?_) F4 N4 ⟨oI', nI4.1, hoc, hod⟩⟩
    rcases hnew p hp with hq | hq
    · exact hoff p hq
    · exact ⟨Nat.ne_of_gt (hq (S, _) (.head _)), Nat.ne_of_gt (hq (I, _) (.tail _ (.head _)))⟩
theorem reduce_rule {Q : Value → Shared → Prop} {news : List (Addr × Obj)} {nn : Nat} (J : Addr → Nat → Value → List (Addr × Obj) → Prop) (hh : A.handled = none) (F : Fr h₀ L s.heap m) (N : News h₀ L s.heap news) (hm : (l, PySem.W.listOf vs.toArray nn) ∈ news)
    (start : ∀ O, (∀ p ∈ news, p.1 < O) → J O 0 init ((O, seqObj "tuple" #[fv, .ref l, init] 0) :: news))
    (hJ : ∀ O j r nw, J O j r nw → (l, PySem.W.listOf vs.toArray nn) ∈ nw ∧ (O, seqObj "tuple" #[fv, .ref l, init] 0) ∈ nw)
    (turn : ∀ O j r x nw h tk own, vs[j]? = some x → J O j r nw → Fr h₀ L h m → News h₀ L h (nw ++ own) →
      wpAny (model prog w) A.in1 (call fv [r, x]) (fun r' s' => ∃ nw' h' tk', s' = { s with heap := h', toks := tk' } ∧ Fr h₀ L h' m ∧ News h₀ L h' (nw' ++ own) ∧ J O (j + 1) r' nw' ∧ ∀ p ∈ nw', p ∈ nw ∨ ∀ q ∈ own, q.1 < p.1) (fun _ _ => False) { s with heap := h, toks := tk })
    (done : ∀ O r nw h tk, J O vs.length r nw → Fr h₀ L h m → News h₀ L h nw → Q r { s with heap := h, toks := tk }) :
    wpAny (model prog w) A (call (.builtin "_functools.reduce") [fv, .ref l, init]) Q E s := by
  have nl := N _ hm
  have hls : s.heap.IsList l vs.toArray := ⟨_, nl.1, rfl, nn, rfl⟩
  have hll : l < s.heap.objs.size := Heap.lt_size nl.1
  have hL : L < s.heap.objs.size := F.ns.lt
  refine kmk_tree kind_reduce plain_reduce entry_reduce (args_reduce _ _ _) ?_
  show wpAny _ A.in1 (tryCatch (pyIter (.ref l)) _ >>= _) _ _ s
  refine wpAny_bind (wpAny_tryCatch (wpAny_pyIter_list hls ?_))
  have F1 := F.push { cls := .type "list_iterator", data := .fields #[.ref l, .int 0 0] }
  have N1 := N.push F { cls := .type "list_iterator", data := .fields #[.ref l, .int 0 0] }
  refine wpAny_bind (wpAny_holding (newTuple_N F1 N1 fun h2 F2 N2 => ?_))
  refine wpAny_bind (wpAny_holding (newTuple_N F2 N2 fun h3 F3 N3 => ?_))
  refine wpAny_pure ⟨plainId_quiet plain_reduce_loop _, ?_⟩
  have gt1 := Heap.lt_size (N2 (s.heap.objs.size, _) (.tail _ (.head _))).1
  have gt2 := Heap.lt_size (N2 _ (.head _)).1
  have old : ∀ p ∈ news, p.1 < s.heap.objs.size := fun p hp => Heap.lt_size (N p hp).1
  have hpI : s.heap.objs.size < (s.heap.push { cls := .type "list_iterator", data := .fields #[.ref l, .int 0 0] }).objs.size := by rw [size_push']; exact Nat.lt_succ_self _
  have hO : ∀ p ∈ news, p.1 < h2.objs.size := fun p hp => Nat.lt_trans (old p hp) gt1
  refine reduce_loop (fv := fv) (init := init) (J h2.objs.size) hh (fun j r nw hj h' N' => ?_) (fun j r nw hj => (hJ _ _ _ _ hj).2) (Nat.ne_of_lt hll) (Nat.ne_of_gt hpI) (fun j r x nw h' tk' own h1 h2 h3 h4 _ => turn _ j r x nw h' tk' own h1 h2 h3 h4) (fun r nw h' tk' => done _ r nw h' tk') vs.length 0 init _ h3 _ (rawInt 0) (rawInt 0) { cls := .type "list_iterator", data := .fields #[.ref l, .int 0 0] } (by omega) (Nat.zero_le _) (start _ hO) (fun p hp => ?_) F3 (fun p hp => ?_) ⟨_, (N3 _ (.tail _ (.tail _ (.head _)))).1, rfl, rfl⟩
  · exact ⟨_, (N' _ (hJ _ _ _ _ hj).1).1, rfl, nn, rfl⟩
  · rcases List.mem_cons.mp hp with rfl | hp
    · exact ⟨Nat.ne_of_gt gt2, Nat.ne_of_gt gt1⟩
    · have := old p hp
      exact ⟨Nat.ne_of_lt (Nat.lt_trans this hpI), Nat.ne_of_lt this⟩
  · rcases List.mem_append.mp hp with hp | hp
    · rcases List.mem_cons.mp hp with rfl | hp
      · exact N3 _ (.head _)
      · exact N3 _ (.tail _ (.tail _ (.tail _ hp)))
    · rcases List.mem_cons.mp hp with rfl | hp
      · exact N3 _ (.tail _ (.head _))
      · rw [List.mem_singleton.mp hp]; exact N3 _ (.tail _ (.tail _ (.head _)))
def RdJ (g : Nat → Nat) (news : List (Addr × Obj)) (fv : Value) (l : Addr) (init : Value) (O : Addr) (j : Nat) (r : Value) (nw : List (Addr × Obj)) : Prop :=
  ∃ (qa : Addr) (vr : List Value) (nn : Nat), j ≤ 8 ∧ r = .ref qa ∧ IntsAre vr ((tabRows g j).map (fun x : Nat => (x : Int))) ∧ (qa, PySem.W.listOf vr.toArray nn) ∈ nw ∧ (∀ p ∈ news, p ∈ nw) ∧ (O, seqObj "tuple" #[fv, .ref l, init] 0) ∈ nw ∧ (j = 0 ∨ (nn = 0 ∧ ∀ p ∈ news, p.1 < qa))
theorem reduce_tab {Q : Value → Shared → Prop} {news : List (Addr × Obj)} {nn ni : Nat} {i0 : Addr} {ti : Tok} (g : Nat → Nat) (hh : A.handled = none) (F : Fr h₀ L s.heap m) (N : News h₀ L s.heap news) (hm : (l, PySem.W.listOf vs.toArray nn) ∈ news)
    (hvs : IntsAre vs ([1, 2, 4, 8, 16, 32, 64, 128].map (fun k : Nat => ((g k : Nat) : Int)))) (hi0 : (i0, PySem.W.listOf #[.int 0 ti] ni) ∈ news)
    (turn : ∀ (rows : List Nat) (qa : Addr) (vr : List Value) (n2 x : Nat) (t : Tok) (nw : List (Addr × Obj)) (h : Heap) (tk : Nat), rows.length ≤ 128 → IntsAre vr (rows.map (fun x : Nat => (x : Int))) → (qa, PySem.W.listOf vr.toArray n2) ∈ nw → (∀ p ∈ news, p ∈ nw) → Fr h₀ L h m → News h₀ L h nw →
      wpAny (model prog w) A.in1 (call fv [.ref qa, .int (x : Int) t]) (fun r' s' => ∃ (qa' : Addr) (vr' : List Value) (h' : Heap) (tk' : Nat), s' = { s with heap := h', toks := tk' } ∧ r' = .ref qa' ∧ Fr h₀ L h' m ∧ News h₀ L h' ((qa', PySem.W.listOf vr'.toArray 0) :: nw) ∧ IntsAre vr' ((rows ++ rows.map (x ^^^ ·)).map (fun x : Nat => (x : Int))) ∧ ∀ p ∈ nw, p.1 < qa') (fun _ _ => False) { s with heap := h, toks := tk })
    (done : ∀ (qa : Addr) (vr : List Value) (h : Heap) (tk : Nat), IntsAre vr ((tabOf g).map (fun x : Nat => (x : Int))) → News h₀ L h ((qa, PySem.W.listOf vr.toArray 0) :: news) → (∀ p ∈ news, p.1 < qa) → Fr h₀ L h m → Q (.ref qa) { s with heap := h, toks := tk }) :
    wpAny (model prog w) A (call (.builtin "_functools.reduce") [fv, .ref l, .ref i0]) Q E s := by
  have hlen : vs.length = 8 := by have := hvs.length; simpa using this
  refine reduce_rule (RdJ g news fv l (.ref i0)) hh F N hm (fun O hO => ?_) (fun O j r nw hj => ?_) (fun O j r x nw h tk own hx hj F' N' => ?_) (fun O r nw h tk hj F' N' => ?_)
  · exact ⟨i0, [.int 0 ti], ni, by omega, rfl, .cons 0 ti .nil, .tail _ hi0, fun p hp => .tail _ hp, .head _, .inl rfl⟩
  · obtain ⟨qa, vr, n2, h1, h2, h3, h4, h5, h6, h7⟩ := hj
    exact ⟨h5 _ hm, h6⟩
  · obtain ⟨qa, vr, n2, h1, rfl, h3, h4, h5, h6, h7⟩ := hj
    have hj8 : j < 8 := by rw [← hlen]; exact (List.getElem?_eq_some_iff.mp hx).1
    obtain ⟨k, t, e, hk⟩ := IntsAre.at hvs j x hx
    subst e
    rw [List.getElem?_map] at hk
    obtain ⟨kn, hkn, rfl⟩ := Option.map_eq_some_iff.mp hk
    have hr := tabRows_len g j h1
    refine wpAny_mono (turn (tabRows g j) qa vr n2 (g kn) t (nw ++ own) h tk (by rw [hr]; exact Nat.pow_le_pow_right (by decide) (show j ≤ 7 by omega)) h3 (List.mem_append_left _ h4) (fun p hp => List.mem_append_left _ (h5 p hp)) F' N') (fun r' s' hr' => ?_) fun _ _ e => e
    obtain ⟨qa', vr', h', tk', rfl, rfl, F2, N2, hI2, hlt⟩ := hr'
    refine ⟨(qa', PySem.W.listOf vr'.toArray 0) :: nw, h', tk', rfl, F2, N2, ⟨qa', vr', 0, hj8, rfl, ?_, .head _, fun p hp => .tail _ (h5 p hp), .tail _ h6, .inr ⟨rfl, fun p hp => hlt p (List.mem_append_left _ (h5 p hp))⟩⟩, fun p hp => ?_⟩
    · rw [tabRows_succ hkn]; exact hI2
    · rcases List.mem_cons.mp hp with rfl | hp
      · exact .inr fun q hq => hlt q (List.mem_append_right _ hq)
      · exact .inl hp
  · obtain ⟨qa, vr, n2, h1, rfl, h3, h4, h5, h6, h7⟩ := hj
    rw [hlen] at h3 h7
    rcases h7 with h7 | ⟨rfl, h7⟩
    · omega
    · exact done qa vr h tk h3 (fun p hp => by
        rcases List.mem_cons.mp hp with rfl | hp
        · exact N' _ h4
        · exact N' _ (h5 _ hp)) h7 F'
end
end Mine
namespace Mine
section
variable {prog : Program} {w : World} {A A₀ : Around} {s : Shared} {K : Frag} {L : Addr} {h₀ base : Heap} {m mg mb : Str → Option Value} {news : List (Addr × Obj)} {p : Program} {loose : List Str} {mean : ExcName → Option Value}
/-- a lambda whose own names are kept in cells -/
theorem lamC_code {env : Env} {outer : List Env} {R : Result → Shared → Prop} {name qual : Str} {params : Arguments} {body : Expr} {scope : Scope} {doc pm ctv : Value} {c' : Addr} {f : Addr} {args : Args} {binds : List (Str × Value)}
    (B : Below A₀ base outer h₀) (F : Fr h₀ L s.heap m) (X₀ : K.In h₀) (N : News h₀ L s.heap news) (T : Top p loose mean mg mb h₀) (hA : A.frames = some (env :: outer)) (hf : env.frame = some L) (hke : env.scope.kind = .function)
    (ho : (f, kdv_obj name qual params (.expr body) scope [] .none doc pm c' ctv) ∈ news) (hcd : s.heap.CodeRec (.ref c') qual) (hroom : A.depth < recursionLimit)
    (hbind : bindArgs (kdv_fn name qual params (.expr body) scope [] .none doc pm (.ref c') ctv) args = pure binds)
    (hkind : (binds.all fun y => scope.names.lookup y.1 == some .local || scope.names.lookup y.1 == some .cell) = true)
    (hnd : ((cellsFrom 0 scope.names []).map (·.1)).Nodup)
    (h : ∀ g L' h₁ tk cells, Fr h₀ L g m → Fr g L' h₁ (bindL (envOfC qual scope L' f (.ref c')).kindOf binds fun _ => none) → News g L' h₁ (cells ++ news) →
      CellsAre (bindC (envOfC qual scope L' f (.ref c')).kindOf binds fun _ => none) (cellsFrom (L' + 1) scope.names []) cells → Below A base (env :: outer) g → K.In g → Top p loose mean mg mb g → (∀ p ∈ news, p.1 < L') →
      wpAny (model prog w) (A.deeper (envOfC qual scope L' f (.ref c'))) (eval body (envOfC qual scope L' f (.ref c')))
        (fun v s' => LeaveK h₀ L m g R v s')
        (fun e s' => wpAny (model prog w) (A.deeper (envOfC qual scope L' f (.ref c'))) (leaving (envOfC qual scope L' f (.ref c')) e) (fun _ s'' => R (.error e) s'') (fun e' s'' => R (.error e') s'') s')
        { s with heap := h₁, toks := tk })
    (hco : scope.isCoroutine = false) (hgen : scope.isGenerator = false) (hk : scope.kind = .function) : codeAny (model prog w) A (.call (.ref f) args) R s := by
  obtain ⟨FG, BG, st, lv⟩ := groundX (R := R) B F N hA hf hke
  refine kla_callFunE hroom (N _ ho).1 rfl hco hgen rfl hcd ?_
  rw [hbind]
  refine wpAny_pure ?_
  refine wpAny_newFunctionEnv_cells hk (kindsX hkind _) fun env' he s' x => ?_
  subst he
  refine ⟨(T.nolimit.keeps F.keep).keeps x.toInCall.keep, ?_⟩
  obtain ⟨h₁, tk, rfl, _⟩ := x.done
  have hk₁ := x.toInCall.keep
  obtain ⟨cells, NC, Y⟩ := Cl.news (h₀ := s.heap) (Nat.le_refl _) fun n c hm => ⟨x.cell n c (lookup_of_mem_nodup (cellsFrom_names scope.names 0 (s.heap.objs.size + 1) [] [] rfl ▸ hnd) hm), x.above n c hm⟩
  refine kla_codeExpr (wpAny_mono (h _ s.heap.objs.size h₁ tk cells FG ⟨x.toInCall.ns, fun b o e => hk₁ b o (of_hideAll _ e), Nat.le_of_eq (hideAll_size _ _)⟩ (fun p hp => ?_) Y BG (X₀.keeps st) (T.keeps st) (fun p hp => Heap.lt_size (N p hp).1)) (fun fl s' hl => lv _ _ hl) fun _ _ y => y)
  rcases List.mem_append.mp hp with hp | hp
  · refine ⟨(NC p hp).1, (NC p hp).2.1, ?_⟩
    cases q : (hideAll s.heap (news.map (·.1))).get? p.1 with
    | none => rfl
    | some o => have := of_hideAll _ q; rw [(NC p hp).2.2] at this; cases this
  · exact ⟨hk₁ _ _ (N p hp).1, Nat.ne_of_lt (Heap.lt_size (N p hp).1), hideAll_none _ (List.mem_map_of_mem hp)⟩
end

theorem triples_snoc {pos : Pos} {c : Value} : ∀ (l : List Value), TriplesOk l → TriplesOk (l ++ [rawInt pos.line, rawInt pos.col, c]) := by
  intro l
  fun_induction TriplesOk l with
  | case1 => intro _; exact trivial
  | case2 a t b u x rest ih => intro h; exact ih h
  | case3 => intro h; exact h.elim
theorem among_some {q : Pos} {v : Value} {x : List Value} : ∀ (l : List Value), TriplesOk l → codeAmong q l = some v → codeAmong q (l ++ x) = some v := by
  intro l
  fun_induction TriplesOk l with
  | case1 => intro _ h; simp [codeAmong] at h
  | case2 a t b u y rest ih =>
    intro h hs
    simp only [List.cons_append, codeAmong] at hs ⊢
    split at hs
    · rename_i hc; rw [if_pos hc]; exact hs
    · rename_i hc; rw [if_neg hc]; exact ih h hs
  | case3 => intro h; exact h.elim
theorem among_none {q pos : Pos} {c : Value} (hne : ¬ (q.line = pos.line ∧ q.col = pos.col)) : ∀ (l : List Value), TriplesOk l → codeAmong q l = none → codeAmong q (l ++ [rawInt pos.line, rawInt pos.col, c]) = none := by
  intro l
  fun_induction TriplesOk l with
  | case1 =>
    intro _ _
    simp only [List.nil_append, codeAmong, rawInt]
    rw [if_neg]
    intro hc
    simp only [Bool.and_eq_true, beq_iff_eq] at hc
    exact hne ⟨by omega, by omega⟩
  | case2 a t b u y rest ih =>
    intro h hs
    simp only [List.cons_append, codeAmong] at hs ⊢
    split at hs
    · cases hs
    · rename_i hc; rw [if_neg hc]; exact ih h hs
  | case3 => intro h; exact h.elim
/-- what is known of a code's table: the defs among qs are either not made yet or stand in the ledger -/
def TabHas (tab : Array Value) (qs : List (Pos × Str)) (ex : List (Addr × Obj)) : Prop :=
  TriplesOk tab.toList ∧ ∀ q ∈ qs, codeAmong q.1 tab.toList = none ∨ ∃ c' oc vs t, codeAmong q.1 tab.toList = some (.ref c') ∧ (c', oc) ∈ ex ∧ oc.data = .fields vs ∧ vs[1]? = some (.str q.2 t)
theorem TabHas.mono {tab : Array Value} {qs : List (Pos × Str)} {ex ex' : List (Addr × Obj)} (h : TabHas tab qs ex) (hs : ∀ p ∈ ex, p ∈ ex') : TabHas tab qs ex' :=
  ⟨h.1, fun q hq => (h.2 q hq).imp id fun ⟨c', oc, vs, t, a, b, r⟩ => ⟨c', oc, vs, t, a, hs _ b, r⟩⟩
theorem TabHas.nil {qs : List (Pos × Str)} {ex : List (Addr × Obj)} : TabHas #[] qs ex := ⟨trivial, fun _ _ => .inl rfl⟩
section
variable {M : Model} {A : Around} {E : Value → Shared → Prop} {s : Shared} {h₀ : Heap} {L a c P : Addr} {m mg mb : Str → Option Value} {cn : Str} {cs : Scope} {ccd : Value} {cl : List (Str × Addr)} {front rest : List (Addr × Obj)}
  {p : Program} {loose : List Str} {mean : ExcName → Option Value} {name qual : Str} {params : Arguments} {body : FuncBody} {scope : Scope} {ps : Array Value} {pos : Pos} {firstLine : Nat} {clos : List (Str × Addr)} {qs : List (Pos × Str)}
theorem tail_any {dV : Value} {Q : Value → Shared → Prop} (F : Fr h₀ L s.heap m) (N : News h₀ L s.heap (front ++ (P, tabObj ps) :: rest)) (T : Top p loose mean mg mb h₀) (C : CodeHd h₀ c P) (hcd : ccd = .ref c)
    (hf : ∀ q ∈ front, q.1 ≠ P) (hr : ∀ q ∈ rest, q.1 ≠ P) (hH : TabHas ps qs rest) (hq : (pos, qual) ∈ qs) (hone : ∀ q ∈ qs, q.1.line = pos.line → q.1.col = pos.col → q.2 = qual)
    (hcl : closureFor scope (envX cn cs L a ccd cl) = pure clos)
    (h : ∀ f c' oc vs t ctv doc ps' add h' tk, Fr h₀ L h' m →
      News h₀ L h' ((f, kdv_obj name qual params body scope clos dV doc ((mg "__name__").getD .none) c' ctv) :: (front ++ (P, tabObj ps') :: (add ++ rest))) →
      (c', oc) ∈ add ++ rest → oc.data = .fields vs → vs[1]? = some (.str qual t) → TabHas ps' qs (add ++ rest) → (∀ q ∈ front, q.1 < f) → (∀ q ∈ rest, q.1 < f) → P < f → (∀ b ∈ add, b.1 < f) → (∀ b ∈ add, ∀ q ∈ front, q.1 < b.1) → (∀ b ∈ add, P < b.1) → (∀ b ∈ add, ∀ q ∈ rest, q.1 < b.1) →
      Q (.ref f) { s with heap := h', toks := tk }) :
    wpAny M A (makeTail name qual params body scope (envX cn cs L a ccd cl) dV .none none pos firstLine) Q E s := by
  have lts : ∀ q ∈ front ++ (P, tabObj ps) :: rest, q.1 < s.heap.objs.size := fun q hq => Heap.lt_size (N q hq).1
  rcases hH.2 _ hq with hno | ⟨c', oc, vs, t, hc', hm, hd, hv⟩
  · have U : UpdF P (tabObj ps) (front ++ (P, tabObj ps) :: rest) (fun o => front ++ (P, o) :: rest) := by
      clear N lts h
      induction front with
      | nil => exact .head hr
      | cons x r ih => exact .tail (hf x (.head _)) (ih fun q hq => hf q (.tail _ hq))
    refine kdv_nest F N T C hcd U hH.1 hno hcl fun f c' oc vs t ctv doc h' tk F' N' hd hv l1 l2 => ?_
    have g : ∀ q ∈ front ++ (P, tabObj ps) :: rest, q.1 < c' := l1
    refine h f c' oc vs t ctv doc (ps ++ #[rawInt pos.line, rawInt pos.col, .ref c']) [(c', oc)] h' tk F' (fun q hq => ?_) (.head _) hd hv ⟨?_, fun q hq => ?_⟩
      (fun q hq => Nat.lt_trans (g q (List.mem_append_left _ hq)) l2) (fun q hq => Nat.lt_trans (g q (List.mem_append_right _ (.tail _ hq))) l2) (Nat.lt_trans (g _ (List.mem_append_right _ (.head _))) l2)
      (fun b hb => by rw [List.mem_singleton.mp hb]; exact l2) (fun b hb q hq => by rw [List.mem_singleton.mp hb]; exact g q (List.mem_append_left _ hq))
      (fun b hb => by rw [List.mem_singleton.mp hb]; exact g _ (List.mem_append_right _ (.head _))) (fun b hb q hq => by rw [List.mem_singleton.mp hb]; exact g q (List.mem_append_right _ (.tail _ hq)))
    · rcases List.mem_cons.mp hq with rfl | hq
      · exact N' _ (.head _)
      · rcases List.mem_append.mp hq with hq | hq
        · exact N' _ (.tail _ (.tail _ (List.mem_append_left _ hq)))
        · rcases List.mem_cons.mp hq with rfl | hq
          · exact N' _ (.tail _ (.tail _ (List.mem_append_right _ (.head _))))
          · rcases List.mem_cons.mp hq with rfl | hq
            · exact N' _ (.tail _ (.head _))
            · exact N' _ (.tail _ (.tail _ (List.mem_append_right _ (.tail _ hq))))
    · rw [Array.toList_append]; exact triples_snoc _ hH.1
    · rw [Array.toList_append]
      by_cases he : q.1.line = pos.line ∧ q.1.col = pos.col
      · have e2 := hone q hq he.1 he.2
        refine .inr ⟨c', oc, vs, t, ?_, .head _, hd, by rw [e2]; exact hv⟩
        have hno' : codeAmong q.1 ps.toList = none := by
          rcases hH.2 q hq with h1 | ⟨c1, _, _, _, h1, _⟩
          · exact h1
          · exfalso
            have : ∀ l : List Value, codeAmong q.1 l = codeAmong pos l := by
              intro l
              fun_induction codeAmong pos l with
              | case1 line t1 col t2 cc r hc => simp only [codeAmong, he.1, he.2, hc, if_true]
              | case2 line t1 col t2 cc r hc ih => simp only [codeAmong, he.1, he.2, hc, if_false]; exact ih
              | case3 l hl => unfold codeAmong; split <;> first | (exfalso; exact hl _ _ _ _ _ _ rfl) | rfl
            rw [this, hno] at h1; cases h1
        have := codeAmong_snoc (pos := q.1) (c := .ref c') ps.toList hH.1 hno'
        rw [he.1, he.2] at this
        exact this
      · rcases hH.2 q hq with h1 | ⟨c1, o1, v1, t1, h1, h2, h3⟩
        · exact .inl (among_none he _ hH.1 h1)
        · exact .inr ⟨c1, o1, v1, t1, among_some _ hH.1 h1, .tail _ h2, h3⟩
  · refine kdv_hit F N T C hcd (List.mem_append_right _ (.head _)) hH.1 hc' hcl fun f ctv doc h' tk F' N' l1 => ?_
    exact h f c' oc vs t ctv doc ps [] h' tk F' N' hm hd hv hH (fun q hq => l1 q (List.mem_append_left _ hq)) (fun q hq => l1 q (List.mem_append_right _ (.tail _ hq))) (l1 _ (List.mem_append_right _ (.head _)))
      (fun b hb => nomatch hb) (fun b hb => nomatch hb) (fun b hb => nomatch hb) (fun b hb => nomatch hb)
end
theorem mk_none {M : Model} {A : Around} {E : Value → Shared → Prop} {s : Shared} {name qual : Str} {params : Arguments} {body : FuncBody} {scope : Scope} {env : Env} {pos : Pos} {firstLine : Nat} {Q : Value → Shared → Prop}
    (h : wpAny M A (makeTail name qual params body scope env .none .none none pos firstLine) Q E s) : wpAny M A (makeFunction name qual params body scope env [] [] [] pos firstLine) Q E s := by
  rw [makeFunction_eq]
  simp only [List.zip_nil_right, List.filterMap_nil, List.isEmpty_nil, if_true, pure_bind]
  exact h
theorem codeHd_of {K : Frag} {h : Heap} {c P : Addr} {vs : Array Value} {file : Str} {tf : Tok} {flags : Int} {tg : Tok} {inF : Bool} {text : Int} {tt : Tok} (X : K.In h) (hk : K.lookup c = some { cls := .type "code", data := .fields vs })
    (h1 : vs[11]? = some (.ref P)) (h2 : vs.getD 18 .none = .str file tf) (h3 : vs.getD 7 .none = .int flags tg) (h4 : vs.getD 9 .none = .bool inF) (h5 : vs.getD 10 .none = .int text tt) (hne : c ≠ P) : CodeHd h c P :=
  ⟨_, vs, file, tf, flags, tg, inF, text, tt, X _ _ hk, rfl, rfl, h1, by simp [Array.getD_eq_getD_getElem?, h1], h2, h3, h4, h5, hne⟩
theorem news_swap2 {h₀ h : Heap} {L : Addr} {a b c : Addr × Obj} {front rest : List (Addr × Obj)} (N : News h₀ L h (a :: b :: c :: (front ++ rest))) : News h₀ L h ((a :: b :: front) ++ c :: rest) := fun p hp => N p (by
  simp only [List.mem_cons, List.mem_append] at hp ⊢
  rcases hp with (hp | hp | hp) | hp | hp <;> simp only [hp, true_or, or_true])
theorem news_swap2b {h₀ h : Heap} {L : Addr} {f a b c : Addr × Obj} {front rest : List (Addr × Obj)} (N : News h₀ L h (f :: ((a :: b :: front) ++ c :: rest))) : News h₀ L h (f :: a :: b :: c :: (front ++ rest)) := fun p hp => N p (by
  simp only [List.mem_cons, List.mem_append] at hp ⊢
  rcases hp with hp | hp | hp | hp | hp | hp <;> simp only [hp, true_or, or_true])
end Mine
namespace Mine
section
variable {prog : Program} {w : World} {A : Around} {E : Value → Shared → Prop} {s : Shared} {h₀ : Heap} {L : Addr} {m : Str → Option Value} {env : Env}
def SrcTup (ax : Addr) (its : Array Value) (k : Nat) (nw : List (Addr × Obj)) : Prop := (ax, seqObj "tuple" its k) ∈ nw
def CompTup (prog : Program) (w : World) (A : Around) (h₀ : Heap) (L : Addr) (m : Str → Option Value) (env : Env) (elt : Expr) (x : Str) (scope : Scope) (cl : List (Str × Addr)) (Fin : Shared → List Value → List (Addr × Obj) → Prop) (xv : Value) (s₁ : Shared) : Prop :=
  ∃ ax its k news, xv = .ref ax ∧ A.handled = none ∧ Fr h₀ L s₁.heap m ∧ News h₀ L s₁.heap news ∧ (ax, seqObj "tuple" its k) ∈ news ∧ its.size ≤ sizeLine ∧
    ∀ g, LCg.CompRest prog w A h₀ L m env elt x scope cl { s₁ with heap := g } (SrcTup ax its k) (fun i v => its[i]? = some v) (Fin { s₁ with heap := g }) its.size 0 [] news
theorem ListComp_T {elt iter : Expr} {x : Str} {px : Pos} {scope : Scope} {cl : List (Str × Addr)} {pos : Pos} {Q : Value → Shared → Prop} (F₀ : Fr h₀ L s.heap m)
    (hclos : closureFor scope env = pure cl) (hcell : ∀ y ∈ scope.names, y.2 ≠ .cell) (hkind : scope.kind = .function)
    (hnames : ∀ y ∈ scope.names, y.2 = .local → scope.names.lookup y.1 = some .local) (hx : scope.names.lookup x = some .local)
    (h : wpAny (model prog w) A (eval iter env) (CompTup prog w A h₀ L m env elt x scope cl (fun s₂ => LCg.FinE h₀ L m s₂ Q)) E s)
    (hs : ∀ x, foldedSetIterable iter env x = pure x := by intro _; rfl) :
    wpAny (model prog w) A (eval (.ListComp elt [⟨.Name x px, iter, [], 0⟩] scope pos) env) Q E s := by
  rw [eval_ListComp]
  refine wpAny_comprehension_free (use := none) rfl hs hclos hkind hnames (wpAny_mono h (fun xv s₁ h₁ => ?_) fun _ _ e => e)
  obtain ⟨ax, its, k, news, rfl, hh, F, N, hm, hsz, R⟩ := h₁
  have hl : s₁.heap.IsTuple ax its := ⟨_, (N _ hm).1, rfl, k, rfl⟩
  have hlt : ax < s₁.heap.objs.size := Heap.lt_size (N _ hm).1
  refine wpAny_pyIter_tuple hl ?_
  have up : ∀ b o, s₁.heap.get? b = some o → (s₁.heap.push { cls := .type "tuple_iterator", data := .fields #[.ref ax, .int 0 0] }).get? b = some o := fun b o e => Heap.get?_push_of_some _ e
  refine LCg.block_U (S := SrcTup ax its k) (Walks.tuple hh s₁.heap.objs.size ax (Nat.ne_of_lt hlt) its) hsz (fun i h st => by obtain ⟨o, e, _⟩ := st.1; exact ⟨o, e⟩)
    (fun i h h' o nw st e e' _ N' S' => ⟨by obtain ⟨o', q, r⟩ := st.1; rw [e] at q; cases q; exact ⟨o, e', r⟩, ⟨_, (N' _ S').1, rfl, k, rfl⟩⟩) hcell hkind hx
    ⟨⟨_, Heap.get?_push_size _ rfl, rfl, rfl⟩, ⟨_, up _ _ (N _ hm).1, rfl, k, rfl⟩⟩ (fun b hb => ?_)
    (F.keeps up) (N.grown up) (Nat.ne_of_lt F.ns.lt) (next_is_new F) (fun p hp => Nat.ne_of_lt (Heap.lt_size (N p hp).1)) hm (R _) ?_
  · show b < (s₁.heap.push _).objs.size
    rw [Heap.size_push]
    rcases List.mem_cons.mp hb with rfl | hb
    · exact Nat.lt_succ_self _
    · rw [List.mem_singleton.mp hb]; exact Nat.lt_succ_of_lt hlt
  · intro D C h tk m' ys news' F' N' o1 hn hC₀ hD₀ hCL hDL hCD offC fin
    refine ⟨m', hn, fun h'' hs'' => fin D h'' tk (F'.change hs'' hCL hC₀) (fun p hp => ?_) o1⟩
    refine ⟨hs''.extBut _ _ ?_ (N' p hp).1, (N' p hp).2⟩
    rcases List.mem_cons.mp hp with rfl | hp
    · exact Ne.symm hCD
    · exact offC p hp
end
end Mine
namespace Mine
/-- one octet of a sum, the highest bit first -/
def stepF (n : Nat) (tab : List Nat) (c x : Nat) : Nat := tab.getD (x ^^^ (c >>> (n - 8))) 0 ^^^ ((c <<< 8) % 2 ^ n)
/-- one octet of a sum, the lowest bit first -/
def stepR (tab : List Nat) (c x : Nat) : Nat := tab.getD (x ^^^ (c % 256)) 0 ^^^ (c >>> 8)
def CrcInv (f : Nat → Nat → Nat) (n c0 : Nat) (pre : List Int) (crc : Int) : Prop := crc = ((pre.foldl (fun c k => f c k.toNat) c0 : Nat) : Int) ∧ pre.foldl (fun c k => f c k.toNat) c0 < 2 ^ n
theorem CrcInv.start {f : Nat → Nat → Nat} {n c0 : Nat} (h : c0 < 2 ^ n) : CrcInv f n c0 [] (c0 : Int) := ⟨rfl, h⟩
def TabLt (tab : List Nat) (n : Nat) : Prop := tab.length = 256 ∧ ∀ x ∈ tab, x < 2 ^ n
theorem TabLt.getD {tab : List Nat} {n : Nat} (h : TabLt tab n) (i : Nat) : tab.getD i 0 < 2 ^ n := by
  rw [List.getD_eq_getElem?_getD]
  cases e : tab[i]? with
  | none => exact Nat.two_pow_pos n
  | some x => exact h.2 x (List.mem_of_getElem? e)
theorem stepF_lt {n c x : Nat} {tab : List Nat} (h : TabLt tab n) : stepF n tab c x < 2 ^ n := xor_lt (h.getD _) (Nat.mod_lt _ (Nat.two_pow_pos n))
theorem stepR_lt {n c x : Nat} {tab : List Nat} (h : TabLt tab n) (hc : c < 2 ^ n) : stepR tab c x < 2 ^ n := by
  refine xor_lt (h.getD _) ?_
  rw [Nat.shiftRight_eq_div_pow]
  exact Nat.lt_of_le_of_lt (Nat.div_le_self _ _) hc
theorem byte_xor {a b : Nat} (ha : a < 256) (hb : b < 256) : a ^^^ b < 256 := xor_lt (k := 8) ha hb
theorem and255 (z : Nat) : z &&& 255 = z % 256 := Nat.and_two_pow_sub_one_eq_mod z 8
/-- the mask of the higher bits -/
theorem and_high {c n : Nat} (hc : c < 2 ^ n) (hn : 8 ≤ n) : (c <<< 8) &&& (2 ^ n - 256) = (c <<< 8) % 2 ^ n := by
  apply Nat.eq_of_testBit_eq
  intro i
  have e : 2 ^ n - 256 = (2 ^ (n - 8) - 1) <<< 8 := by
    rw [Nat.shiftLeft_eq, Nat.sub_mul, ← Nat.pow_add, Nat.sub_add_cancel hn]
  rw [Nat.testBit_and, e, Nat.testBit_shiftLeft, Nat.testBit_shiftLeft, Nat.testBit_mod_two_pow, Nat.testBit_two_pow_sub_one, Nat.testBit_shiftLeft]
  by_cases h8 : 8 ≤ i
  · by_cases hi : i < n
    · simp [h8, hi]; intro _; omega
    · simp [h8, hi]; intro _; omega
  · simp [h8]
theorem idx_and (k z : Int) (h0 : 0 ≤ k) (h1 : k < 256) : 0 ≤ Builtin.bitXor k (Builtin.bitAnd z 255) ∧ Builtin.bitXor k (Builtin.bitAnd z 255) < 256 := by
  have h := bitAnd_range z (show (0 : Int) ≤ 255 by decide)
  obtain ⟨a, rfl⟩ := Int.eq_ofNat_of_zero_le h0
  obtain ⟨b, hb⟩ := Int.eq_ofNat_of_zero_le h.1
  rw [hb, xor_cast]
  have := byte_xor (a := a) (b := b) (by omega) (by omega)
  omega
theorem idx_crc {f : Nat → Nat → Nat} {c0 : Nat} {pre : List Int} {crc : Int} (k : Int) (h : CrcInv f 8 c0 pre crc) (h0 : 0 ≤ k) (h1 : k < 256) : 0 ≤ Builtin.bitXor k crc ∧ Builtin.bitXor k crc < 256 := by
  obtain ⟨e, hl⟩ := h
  subst e
  obtain ⟨a, rfl⟩ := Int.eq_ofNat_of_zero_le h0
  rw [xor_cast]
  have := byte_xor (a := a) (b := pre.foldl (fun c k => f c k.toNat) c0) (by omega) hl
  omega
theorem getD_cast (tab : List Nat) (i : Nat) : (tab.map (fun x : Nat => (x : Int))).getD i 0 = ((tab.getD i 0 : Nat) : Int) := by
  rw [List.getD_eq_getElem?_getD, List.getD_eq_getElem?_getD, List.getElem?_map]
  cases tab[i]? <;> rfl
theorem CrcInv.turnF {n c0 : Nat} {tab : List Nat} {pre : List Int} {crc k : Int} (hT : TabLt tab n) (h : CrcInv (stepF n tab) n c0 pre crc) (hn : 8 ≤ n) (hk0 : 0 ≤ k) (hk1 : k < 256) (sh mk : Int) (hsh : sh = ((n - 8 : Nat) : Int)) (hmk : mk = ((2 ^ n - 256 : Nat) : Int)) :
    CrcInv (stepF n tab) n c0 (pre ++ [k]) (Builtin.bitXor ((tab.map (fun x : Nat => (x : Int))).getD (Builtin.bitXor k (Builtin.bitAnd (crc.fdiv (2 ^ sh.toNat)) 255)).toNat 0) (Builtin.bitAnd (crc * 2 ^ Int.toNat 8) mk)) := by
  obtain ⟨e, hl⟩ := h
  obtain ⟨a, rfl⟩ := Int.eq_ofNat_of_zero_le hk0
  have hs : ((pre ++ [(a : Int)]).foldl (fun c k => stepF n tab c k.toNat) c0) = stepF n tab (pre.foldl (fun c k => stepF n tab c k.toNat) c0) a := by simp
  refine ⟨?_, by rw [hs]; exact stepF_lt hT⟩
  rw [hs]
  generalize pre.foldl (fun c k => stepF n tab c k.toNat) c0 = c at e hl
  subst e hsh hmk
  rw [show Int.toNat 8 = 8 from rfl, show (((n - 8 : Nat) : Int)).toNat = n - 8 by omega, shr_cast, shl_cast, show (255 : Int) = ((255 : Nat) : Int) from rfl, and_cast, and_cast, xor_cast, getD_cast, xor_cast]
  congr 1
  unfold stepF
  rw [show (((a ^^^ (c >>> (n - 8) &&& 255) : Nat) : Int)).toNat = a ^^^ (c >>> (n - 8) &&& 255) by omega, and_high hl hn, and255, Nat.mod_eq_of_lt]
  rw [Nat.shiftRight_eq_div_pow]
  apply Nat.div_lt_of_lt_mul
  rw [Nat.mul_comm, ← pow8 hn]; exact hl
theorem CrcInv.turnR {n c0 : Nat} {tab : List Nat} {pre : List Int} {crc k : Int} (hT : TabLt tab n) (h : CrcInv (stepR tab) n c0 pre crc) (hk0 : 0 ≤ k) (hk1 : k < 256) :
    CrcInv (stepR tab) n c0 (pre ++ [k]) (Builtin.bitXor ((tab.map (fun x : Nat => (x : Int))).getD (Builtin.bitXor k (Builtin.bitAnd crc 255)).toNat 0) (crc.fdiv (2 ^ Int.toNat 8))) := by
  obtain ⟨e, hl⟩ := h
  obtain ⟨a, rfl⟩ := Int.eq_ofNat_of_zero_le hk0
  have hs : ((pre ++ [(a : Int)]).foldl (fun c k => stepR tab c k.toNat) c0) = stepR tab (pre.foldl (fun c k => stepR tab c k.toNat) c0) a := by simp
  refine ⟨?_, by rw [hs]; exact stepR_lt hT hl⟩
  rw [hs]
  generalize pre.foldl (fun c k => stepR tab c k.toNat) c0 = c at e hl
  subst e
  rw [show Int.toNat 8 = 8 from rfl, shr_cast, show (255 : Int) = ((255 : Nat) : Int) from rfl, and_cast, xor_cast, getD_cast, xor_cast]
  congr 1
  unfold stepR
  rw [show (((a ^^^ (c &&& 255) : Nat) : Int)).toNat = a ^^^ (c &&& 255) by omega, and255]
theorem CrcInv.turn8 {c0 : Nat} {f : Nat → Nat → Nat} {tab : List Nat} {pre : List Int} {crc k : Int} (hf : ∀ c x, c < 2 ^ 8 → f c x = tab.getD (x ^^^ c) 0) (hT : TabLt tab 8) (h : CrcInv f 8 c0 pre crc) (hk0 : 0 ≤ k) (hk1 : k < 256) :
    CrcInv f 8 c0 (pre ++ [k]) ((tab.map (fun x : Nat => (x : Int))).getD (Builtin.bitXor k crc).toNat 0) := by
  obtain ⟨e, hl⟩ := h
  obtain ⟨a, rfl⟩ := Int.eq_ofNat_of_zero_le hk0
  have hs : ((pre ++ [(a : Int)]).foldl (fun c k => f c k.toNat) c0) = f (pre.foldl (fun c k => f c k.toNat) c0) a := by simp
  refine ⟨?_, by rw [hs, hf _ _ hl]; exact hT.getD _⟩
  rw [hs, hf _ _ hl]
  generalize pre.foldl (fun c k => f c k.toNat) c0 = c at e hl
  subst e
  rw [xor_cast, getD_cast, show (((a ^^^ c : Nat) : Int)).toNat = a ^^^ c by omega]
theorem stepF_8 {tab : List Nat} : ∀ c x, c < 2 ^ 8 → stepF 8 tab c x = tab.getD (x ^^^ c) 0 := by
  intro c x hc
  unfold stepF
  have : (c <<< 8) % 2 ^ 8 = 0 := by rw [Nat.shiftLeft_eq]; exact Nat.mul_mod_left _ _
  rw [this]; simp
theorem stepR_8 {tab : List Nat} : ∀ c x, c < 2 ^ 8 → stepR tab c x = tab.getD (x ^^^ c) 0 := by
  intro c x hc
  unfold stepR
  have h1 : c % 256 = c := Nat.mod_eq_of_lt hc
  have h2 : c >>> 8 = 0 := by rw [Nat.shiftRight_eq_div_pow]; exact Nat.div_eq_of_lt hc
  rw [h1, h2]; simp
/-- the octets, as numbers -/
def octs (b : Array UInt8) : List Nat := b.toList.map (·.toNat)
theorem CrcInv.fin {f : Nat → Nat → Nat} {n c0 : Nat} {b : Array UInt8} {crc : Int} (h : CrcInv f n c0 (KBw.bInts b) crc) : crc = (((octs b).foldl f c0 : Nat) : Int) := by
  obtain ⟨e, _⟩ := h
  rw [e]; congr 1
  unfold KBw.bInts octs
  simp only [List.foldl_map]
  rfl
theorem CrcInv.shl {f : Nat → Nat → Nat} {N c0 : Nat} {pre : List Int} {crc n : Int} (h : CrcInv f N c0 pre crc) (hN : N ≤ 64) (hn : n ≤ 1000) : (Builtin.Int.intBits crc : Int) + n ≤ 2 ^ 27 := by
  obtain ⟨h1, h2⟩ := h
  subst h1
  exact shl_bits h2 (by omega) hn
theorem tab_item {prog : Program} {w : World} {A : Around} {E : Value → Shared → Prop} {s : Shared} {h₀ : Heap} {L tb : Addr} {news : List (Addr × Obj)} {vr : List Value} {ns : List Int} {nn : Nat} {value slice : Expr} {i : Int} {u : Tok} {Q : Value → Shared → Prop}
    (N : News h₀ L s.heap news) (hm : (tb, PySem.W.listOf vr.toArray nn) ∈ news) (hI : IntsAre vr ns) (hb : 0 ≤ i ∧ i < (ns.length : Int)) (hl : ns.length < 2 ^ 60) (h : ∀ t', Q (.int (ns.getD i.toNat 0) t') s)
    (hs : subscripted slice false (.ref tb) (.int i u) = operate [.ref tb, .int i u] (getItem (.ref tb) (.int i u)) := by with_unfolding_all rfl) :
    wpAny (model prog w) A (subscriptTail value slice (.ref tb) (.int i u)) Q E s := by
  have hls : s.heap.IsList tb vr.toArray := ⟨_, (N _ hm).1, rfl, nn, rfl⟩
  have hi : i.toNat < ns.length := by omega
  obtain ⟨t, ht⟩ := hI.get i.toNat ns[i.toNat] (by simp [hi])
  refine PyProof.Rows.tail_any hls.typeIs slot_list_getitem.lookup (wpAny_getItem_list hls hb.1 (by omega) (by simpa using ht) ?_) hs
  have : ns.getD i.toNat 0 = ns[i.toNat] := by simp [List.getD, hi]
  rw [← this]; exact h t
end Mine
namespace Mine
theorem CrcInv.start' {f : Nat → Nat → Nat} {n c0 : Nat} {mk : Int} (hmk : mk = ((2 ^ n - 1 : Nat) : Int)) (h : c0 < 2 ^ n) : CrcInv f n c0 [] (Builtin.bitAnd (c0 : Int) mk) := by
  refine ⟨?_, h⟩
  rw [hmk, and_cast, Nat.and_two_pow_sub_one_eq_mod, Nat.mod_eq_of_lt h]
  rfl
end Mine
namespace Mine
theorem CrcInv.fin' {f : Nat → Nat → Nat} {n c0 : Nat} {b : Array UInt8} {crc : Int} (h : CrcInv f n c0 (b.toList.map fun c => ((c.toNat : Nat) : Int)) crc) : crc = (((octs b).foldl f c0 : Nat) : Int) := by
  obtain ⟨e, _⟩ := h
  rw [e]; congr 1
  unfold octs
  simp only [List.foldl_map]
  rfl
theorem len256 {tab : List Nat} {n : Nat} (h : TabLt tab n) : (tab.map (fun x : Nat => (x : Int))).length = 256 := by rw [List.length_map]; exact h.1
end Mine
namespace Mine
/-! polynomials over the field of two elements, written as natural numbers -/
theorem two_mul_xor (a b : Nat) : 2 * (a ^^^ b) = 2 * a ^^^ 2 * b := by
  have := Nat.shiftLeft_xor_distrib (a := a) (b := b) (i := 1)
  simp only [Nat.shiftLeft_eq, Nat.pow_one] at this
  rw [Nat.mul_comm 2, Nat.mul_comm 2, Nat.mul_comm 2]; exact this
theorem mul_pow_xor (a b k : Nat) : (a ^^^ b) * 2 ^ k = a * 2 ^ k ^^^ b * 2 ^ k := by
  have := Nat.shiftLeft_xor_distrib (a := a) (b := b) (i := k)
  simpa only [Nat.shiftLeft_eq] using this
theorem xor_left_comm' (a b c : Nat) : a ^^^ (b ^^^ c) = b ^^^ (a ^^^ c) := by
  rw [← Nat.xor_assoc, Nat.xor_comm a b, Nat.xor_assoc]
theorem xor_cancel (a b : Nat) : a ^^^ (a ^^^ b) = b := by rw [← Nat.xor_assoc, Nat.xor_self, Nat.zero_xor]
theorem xor_eq_zero {a b : Nat} (h : a ^^^ b = 0) : a = b := by
  have := xor_cancel a b
  rw [h, Nat.xor_zero] at this; exact this
theorem xor4 (a b c d : Nat) : (a ^^^ b) ^^^ (c ^^^ d) = (a ^^^ c) ^^^ (b ^^^ d) := by
  rw [Nat.xor_assoc, Nat.xor_assoc, xor_left_comm' b c d]
theorem bit_of (b : Nat) : b = (b % 2) ^^^ 2 * (b / 2) := by
  apply Nat.eq_of_testBit_eq
  intro i
  cases i with
  | zero => rw [Nat.testBit_xor]; simp [Nat.testBit_zero]
  | succ i =>
    have h1 : (b % 2).testBit (i + 1) = false := Nat.testBit_lt_two_pow (Nat.lt_of_lt_of_le (Nat.mod_lt _ (by decide)) (by have := Nat.two_pow_pos i; rw [Nat.pow_succ]; omega))
    rw [Nat.testBit_xor, h1, Bool.false_xor, Nat.testBit_succ, Nat.testBit_succ, Nat.mul_div_cancel_left _ (by decide)]
/-- the product -/
def cmul (a b : Nat) : Nat := if b = 0 then 0 else (if b % 2 = 1 then a else 0) ^^^ 2 * cmul a (b / 2)
termination_by b
decreasing_by omega
theorem cmul_zero (a : Nat) : cmul a 0 = 0 := by rw [cmul]; simp
theorem cmul_bit (a b : Nat) : cmul a b = (if b % 2 = 1 then a else 0) ^^^ 2 * cmul a (b / 2) := by
  by_cases h : b = 0
  · subst h; simp [cmul_zero]
  · rw [cmul, if_neg h]
theorem zero_cmul (b : Nat) : cmul 0 b = 0 := by
  induction b using Nat.strongRecOn with
  | _ b ih =>
    by_cases h : b = 0
    · subst h; exact cmul_zero 0
    · rw [cmul_bit, ih (b / 2) (by omega)]; simp
theorem cmul_one (a : Nat) : cmul a 1 = a := by rw [cmul_bit]; simp [cmul_zero]
theorem cmul_two_right (a b : Nat) : cmul a (2 * b) = 2 * cmul a b := by
  rw [cmul_bit, show 2 * b % 2 = 0 by omega, show 2 * b / 2 = b by omega]; simp
theorem cmul_xor_left (a c b : Nat) : cmul (a ^^^ c) b = cmul a b ^^^ cmul c b := by
  induction b using Nat.strongRecOn with
  | _ b ih =>
    by_cases h : b = 0
    · subst h; simp [cmul_zero]
    · rw [cmul_bit (a ^^^ c), cmul_bit a, cmul_bit c, ih (b / 2) (by omega), two_mul_xor]
      split
      · exact xor4 _ _ _ _
      · simp
theorem cmul_two_left (a b : Nat) : cmul (2 * a) b = 2 * cmul a b := by
  induction b using Nat.strongRecOn with
  | _ b ih =>
    by_cases h : b = 0
    · subst h; simp [cmul_zero]
    · rw [cmul_bit (2 * a), cmul_bit a, ih (b / 2) (by omega), two_mul_xor]
      split <;> simp
theorem one_cmul (b : Nat) : cmul 1 b = b := by
  induction b using Nat.strongRecOn with
  | _ b ih =>
    by_cases h : b = 0
    · subst h; exact cmul_zero 1
    · rw [cmul_bit, ih (b / 2) (by omega)]
      have e := bit_of b
      rcases Nat.mod_two_eq_zero_or_one b with h | h <;> rw [h] at e ⊢ <;> simpa using e.symm
theorem xor_halves (b c : Nat) : (b ^^^ c) / 2 = b / 2 ^^^ c / 2 := Nat.xor_div_two
theorem xor_odd (b c : Nat) : (b ^^^ c) % 2 = (b % 2 + c % 2) % 2 := by
  have h := xor_add_and b c
  have : (b ^^^ c) % 2 = (b + c) % 2 := by omega
  omega
theorem cmul_xor_right (a b c : Nat) : cmul a (b ^^^ c) = cmul a b ^^^ cmul a c := by
  induction b using Nat.strongRecOn generalizing c with
  | _ b ih =>
    by_cases h : b = 0
    · subst h; simp [cmul_zero]
    · rw [cmul_bit a (b ^^^ c), cmul_bit a b, cmul_bit a c, xor_halves, ih (b / 2) (by omega), two_mul_xor, xor_odd, xor4]
      congr 1
      rcases Nat.mod_two_eq_zero_or_one b with h1 | h1 <;> rcases Nat.mod_two_eq_zero_or_one c with h2 | h2 <;> simp [h1, h2]
theorem cmul_comm (a b : Nat) : cmul a b = cmul b a := by
  induction b using Nat.strongRecOn with
  | _ b ih =>
    by_cases h : b = 0
    · subst h; rw [cmul_zero, zero_cmul]
    · rw [cmul_bit a b, ih (b / 2) (by omega), ← cmul_two_left]
      have e : cmul b a = cmul (b % 2) a ^^^ cmul (2 * (b / 2)) a := by rw [← cmul_xor_left, ← bit_of]
      rw [e]
      congr 1
      rcases Nat.mod_two_eq_zero_or_one b with h1 | h1 <;> rw [h1] <;> simp [zero_cmul, one_cmul]
theorem cmul_assoc (a b c : Nat) : cmul a (cmul b c) = cmul (cmul a b) c := by
  induction c using Nat.strongRecOn with
  | _ c ih =>
    by_cases h : c = 0
    · subst h; simp [cmul_zero]
    · rw [cmul_bit b c, cmul_bit (cmul a b) c, cmul_xor_right, cmul_two_right, ih (c / 2) (by omega)]
      congr 1
      split
      · rfl
      · rw [cmul_zero]
theorem cmul_pow (a k : Nat) : cmul a (2 ^ k) = a * 2 ^ k := by
  induction k with
  | zero => rw [Nat.pow_zero, cmul_one, Nat.mul_one]
  | succ k ih => rw [Nat.pow_succ, Nat.mul_comm _ 2, cmul_two_right, ih]; rw [Nat.mul_left_comm]
theorem cmul_shl (a b k : Nat) : cmul a (b * 2 ^ k) = cmul a b * 2 ^ k := by rw [← cmul_pow, cmul_assoc, cmul_pow]
theorem shl_cmul (a b k : Nat) : cmul (a * 2 ^ k) b = cmul a b * 2 ^ k := by rw [cmul_comm, cmul_shl, cmul_comm]
/-- a has the degree n -/
def Dg (a n : Nat) : Prop := 2 ^ n ≤ a ∧ a < 2 ^ (n + 1)
theorem Dg.ne {a n : Nat} (h : Dg a n) : a ≠ 0 := by have := Nat.two_pow_pos n; have := h.1; omega
theorem Dg.log {a n : Nat} (h : Dg a n) : a.log2 = n := (Nat.log2_eq_iff h.ne).mpr h
theorem Dg.of {a : Nat} (h : a ≠ 0) : Dg a a.log2 := ⟨Nat.log2_self_le h, Nat.lt_log2_self⟩
theorem Dg.xor_low {a n b : Nat} (h : Dg a n) (hb : b < 2 ^ n) : Dg (a ^^^ b) n := by
  have h1 : a ^^^ b < 2 ^ (n + 1) := Nat.xor_lt_two_pow h.2 (Nat.lt_of_lt_of_le hb (Nat.pow_le_pow_right (by decide) (Nat.le_succ n)))
  refine ⟨?_, h1⟩
  refine Nat.le_of_not_lt fun hlt => ?_
  have h2 := Nat.xor_lt_two_pow hlt hb
  rw [Nat.xor_assoc, Nat.xor_self, Nat.xor_zero] at h2
  exact absurd h2 (Nat.not_lt.mpr h.1)
theorem Dg.two {a n : Nat} (h : Dg a n) : Dg (2 * a) (n + 1) := by
  have h1 := h.1
  have h2 := h.2
  constructor
  · rw [Nat.pow_succ]; omega
  · rw [Nat.pow_succ _ (n + 1)]; omega
theorem Dg.shl {a n : Nat} (h : Dg a n) (k : Nat) : Dg (a * 2 ^ k) (n + k) := by
  induction k with
  | zero => simpa using h
  | succ k ih => rw [Nat.pow_succ, ← Nat.mul_assoc, Nat.mul_comm _ 2]; exact ih.two
theorem cmul_dg {a n : Nat} (ha : Dg a n) : ∀ (m b : Nat), Dg b m → Dg (cmul a b) (n + m)
  | 0, b, hb => by
    have : b = 1 := by have h1 := hb.1; have h2 := hb.2; simp at h1 h2; omega
    subst this; rw [cmul_one]; exact ha
  | m + 1, b, hb => by
    have hb2 : Dg (b / 2) m := by
      have h1 := hb.1
      have h2 := hb.2
      rw [Nat.pow_succ] at h1
      rw [Nat.pow_succ] at h2
      exact ⟨by omega, by omega⟩
    have h := (cmul_dg ha m (b / 2) hb2).two
    rw [cmul_bit, Nat.xor_comm]
    refine Dg.xor_low h ?_
    split
    · exact Nat.lt_of_lt_of_le ha.2 (Nat.pow_le_pow_right (by decide) (by omega))
    · exact Nat.two_pow_pos _
theorem cmul_ne {a b : Nat} (ha : a ≠ 0) (hb : b ≠ 0) : cmul a b ≠ 0 := (cmul_dg (Dg.of ha) _ _ (Dg.of hb)).ne
/-- a is a multiple of P -/
def Mlt (P a : Nat) : Prop := ∃ q, a = cmul P q
theorem Mlt.zero (P : Nat) : Mlt P 0 := ⟨0, (cmul_zero P).symm⟩
theorem Mlt.self (P : Nat) : Mlt P P := ⟨1, (cmul_one P).symm⟩
theorem Mlt.xor {P a b : Nat} (ha : Mlt P a) (hb : Mlt P b) : Mlt P (a ^^^ b) := by
  obtain ⟨p, rfl⟩ := ha
  obtain ⟨q, rfl⟩ := hb
  exact ⟨p ^^^ q, (cmul_xor_right _ _ _).symm⟩
theorem Mlt.mul {P a : Nat} (h : Mlt P a) (c : Nat) : Mlt P (cmul a c) := by
  obtain ⟨q, rfl⟩ := h
  exact ⟨cmul q c, (cmul_assoc _ _ _).symm⟩
theorem Mlt.shl {P a : Nat} (h : Mlt P a) (k : Nat) : Mlt P (a * 2 ^ k) := by rw [← cmul_pow]; exact h.mul _
theorem Mlt.two {P a : Nat} (h : Mlt P a) : Mlt P (2 * a) := by have := h.shl 1; rwa [Nat.pow_one, Nat.mul_comm] at this
theorem Mlt.small {P n a : Nat} (hP : Dg P n) (h : Mlt P a) (ha : a < 2 ^ n) : a = 0 := by
  obtain ⟨q, rfl⟩ := h
  by_cases hq : q = 0
  · subst hq; exact cmul_zero P
  · have := (cmul_dg hP _ _ (Dg.of hq)).1
    have h2 : 2 ^ n ≤ 2 ^ (n + q.log2) := Nat.pow_le_pow_right (by decide) (by omega)
    omega
theorem add_eq_xor {a b k : Nat} (hb : b < 2 ^ k) : a * 2 ^ k + b = a * 2 ^ k ^^^ b := by
  have h := xor_add_and (a * 2 ^ k) b
  have h0 : a * 2 ^ k &&& b = 0 := by
    apply Nat.eq_of_testBit_eq
    intro i
    rw [Nat.testBit_and, Nat.zero_testBit, ← Nat.shiftLeft_eq, Nat.testBit_shiftLeft]
    by_cases hi : i < k
    · simp [Nat.not_le.mpr hi]
    · rw [Nat.testBit_lt_two_pow (Nat.lt_of_lt_of_le hb (Nat.pow_le_pow_right (by decide) (by omega)))]; simp
  omega
theorem xor_top_lt {a b n : Nat} (ha : Dg a n) (hb : Dg b n) : a ^^^ b < 2 ^ n := by
  have h1 : a - 2 ^ n < 2 ^ n := by have := ha.2; rw [Nat.pow_succ] at this; omega
  have h2 : b - 2 ^ n < 2 ^ n := by have := hb.2; rw [Nat.pow_succ] at this; omega
  have e : ∀ y : Nat, y < 2 ^ n → 2 ^ n ^^^ y = 2 ^ n + y := fun y hy => by
    have h := add_eq_xor (a := 1) hy
    rw [Nat.one_mul] at h; exact h.symm
  have ea : a = 2 ^ n ^^^ (a - 2 ^ n) := by rw [e _ h1]; have := ha.1; omega
  have eb : b = 2 ^ n ^^^ (b - 2 ^ n) := by rw [e _ h2]; have := hb.1; omega
  rw [ea, eb, xor4, Nat.xor_self, Nat.zero_xor]
  exact Nat.xor_lt_two_pow h1 h2
theorem rest_ex {P n : Nat} (hP : Dg P n) (a : Nat) : ∃ r, r < 2 ^ n ∧ Mlt P (a ^^^ r) := by
  induction a using Nat.strongRecOn with
  | _ a ih =>
    by_cases h : a < 2 ^ n
    · exact ⟨a, h, by rw [Nat.xor_self]; exact Mlt.zero P⟩
    · have ha : a ≠ 0 := by have := Nat.two_pow_pos n; omega
      have hd := Dg.of ha
      have hle : n ≤ a.log2 := (Nat.le_log2 ha).mpr (by omega)
      have hs := hP.shl (a.log2 - n)
      rw [Nat.add_sub_cancel' hle] at hs
      have hlt := xor_top_lt hd hs
      obtain ⟨r, h1, h2⟩ := ih (a ^^^ P * 2 ^ (a.log2 - n)) (Nat.lt_of_lt_of_le hlt hd.1)
      refine ⟨r, h1, ?_⟩
      have := h2.xor ((Mlt.self P).shl (a.log2 - n))
      rwa [Nat.xor_assoc, Nat.xor_assoc, Nat.xor_comm r, ← Nat.xor_assoc (P * _), Nat.xor_self, Nat.zero_xor] at this
open Classical in
/-- what division by P leaves -/
noncomputable def cmod (P a : Nat) : Nat := if h : ∃ r, r < 2 ^ P.log2 ∧ Mlt P (a ^^^ r) then h.choose else 0
theorem cmod_spec {P n : Nat} (hP : Dg P n) (a : Nat) : cmod P a < 2 ^ n ∧ Mlt P (a ^^^ cmod P a) := by
  have h := rest_ex hP a
  rw [← hP.log] at h
  have h2 := h.choose_spec
  unfold cmod
  rw [dif_pos h]
  rw [← hP.log]
  exact h2
theorem cmod_lt {P n : Nat} (hP : Dg P n) (a : Nat) : cmod P a < 2 ^ n := (cmod_spec hP a).1
theorem cmod_mlt {P n : Nat} (hP : Dg P n) (a : Nat) : Mlt P (a ^^^ cmod P a) := (cmod_spec hP a).2
theorem cmod_eq {P n a r : Nat} (hP : Dg P n) (hr : r < 2 ^ n) (h : Mlt P (a ^^^ r)) : cmod P a = r := by
  have := h.xor (cmod_mlt hP a)
  rw [xor4, Nat.xor_self, Nat.zero_xor] at this
  exact (xor_eq_zero (this.small hP (Nat.xor_lt_two_pow hr (cmod_lt hP a)))).symm
theorem cmod_small {P n a : Nat} (hP : Dg P n) (h : a < 2 ^ n) : cmod P a = a := cmod_eq hP h (by rw [Nat.xor_self]; exact Mlt.zero P)
theorem cmod_congr {P n a b : Nat} (hP : Dg P n) (h : Mlt P (a ^^^ b)) : cmod P a = cmod P b := by
  refine cmod_eq hP (cmod_lt hP b) ?_
  have := h.xor (cmod_mlt hP b)
  rwa [Nat.xor_assoc, xor_cancel] at this
theorem cmod_iff {P n a b : Nat} (hP : Dg P n) : cmod P a = cmod P b ↔ Mlt P (a ^^^ b) := by
  refine ⟨fun h => ?_, cmod_congr hP⟩
  have := (cmod_mlt hP a).xor (cmod_mlt hP b)
  rwa [h, xor4, Nat.xor_self, Nat.xor_zero] at this
theorem cmod_xor {P n : Nat} (hP : Dg P n) (a b : Nat) : cmod P (a ^^^ b) = cmod P a ^^^ cmod P b := by
  refine cmod_eq hP (Nat.xor_lt_two_pow (cmod_lt hP a) (cmod_lt hP b)) ?_
  rw [xor4]
  exact (cmod_mlt hP a).xor (cmod_mlt hP b)
theorem cmod_zero_iff {P n a : Nat} (hP : Dg P n) : cmod P a = 0 ↔ Mlt P a := by
  have h0 : cmod P 0 = 0 := cmod_small hP (Nat.two_pow_pos n)
  rw [← h0, cmod_iff hP, Nat.xor_zero]
theorem cmod_shl {P n : Nat} (hP : Dg P n) (a k : Nat) : cmod P (cmod P a * 2 ^ k) = cmod P (a * 2 ^ k) := by
  refine cmod_congr hP ?_
  rw [← mul_pow_xor, Nat.xor_comm]
  exact (cmod_mlt hP a).shl k
theorem cmod_cmod {P n : Nat} (hP : Dg P n) (a : Nat) : cmod P (cmod P a) = cmod P a := cmod_small hP (cmod_lt hP a)
end Mine
namespace Mine
theorem brL_testBit (n x : Nat) : ∀ i, (brL n x).testBit i = (decide (i < n) && x.testBit (n - 1 - i)) := by
  induction n with
  | zero => intro i; simp [brL]
  | succ k ih =>
    intro i
    have hb : (x >>> k) % 2 < 2 := Nat.mod_lt _ (by decide)
    have hx : (x >>> k) % 2 = (x.testBit k).toNat := by
      rw [Nat.testBit_eq_decide_div_mod_eq, Nat.shiftRight_eq_div_pow]
      rcases Nat.mod_two_eq_zero_or_one (x / 2 ^ k) with h | h <;> simp [h]
    cases i with
    | zero =>
      rw [Nat.testBit_zero, brL, hx, show k + 1 - 1 - 0 = k by omega]
      cases x.testBit k <;> simp
    | succ i =>
      rw [Nat.testBit_succ, brL, show (2 * brL k x + (x >>> k) % 2) / 2 = brL k x by omega, ih]
      by_cases h : i < k
      · rw [decide_eq_true h, decide_eq_true (by omega : i + 1 < k + 1), show k - 1 - i = k + 1 - 1 - (i + 1) by omega]
      · rw [decide_eq_false h, decide_eq_false (by omega : ¬ i + 1 < k + 1)]; rfl
theorem brL_xor (n a b : Nat) : brL n (a ^^^ b) = brL n a ^^^ brL n b := by
  apply Nat.eq_of_testBit_eq
  intro i
  rw [Nat.testBit_xor, brL_testBit, brL_testBit, brL_testBit, Nat.testBit_xor]
  cases decide (i < n) <;> simp
theorem brL_brL {n x : Nat} (h : x < 2 ^ n) : brL n (brL n x) = x := by
  apply Nat.eq_of_testBit_eq
  intro i
  rw [brL_testBit, brL_testBit]
  by_cases hi : i < n
  · rw [decide_eq_true hi, decide_eq_true (by omega : n - 1 - i < n), show n - 1 - (n - 1 - i) = i by omega]; simp
  · have : x.testBit i = false := Nat.testBit_lt_two_pow (Nat.lt_of_lt_of_le h (Nat.pow_le_pow_right (by decide) (by omega)))
    rw [decide_eq_false hi, this]; simp
theorem brL_zero (n : Nat) : brL n 0 = 0 := by
  induction n with
  | zero => rfl
  | succ k ih => rw [brL, ih]; simp
theorem Dg.tb {a n : Nat} (h : Dg a n) : a.testBit n = true := by
  have h2 : Dg (2 ^ n) n := ⟨Nat.le_refl _, Nat.pow_lt_pow_right (by decide) (Nat.lt_succ_self n)⟩
  have h1 := Nat.testBit_lt_two_pow (xor_top_lt h h2)
  rw [Nat.testBit_xor, Nat.testBit_two_pow_self] at h1
  simpa using h1
theorem Dg.pow (n : Nat) : Dg (2 ^ n) n := ⟨Nat.le_refl _, Nat.pow_lt_pow_right (by decide) (Nat.lt_succ_self n)⟩
theorem Dg.low {a n : Nat} (h : Dg a n) : a % 2 ^ n = a ^^^ 2 ^ n := by
  have h1 := xor_top_lt h (Dg.pow n)
  have h2 : (a ^^^ 2 ^ n) % 2 ^ n = a % 2 ^ n ^^^ 2 ^ n % 2 ^ n := Nat.xor_mod_two_pow
  rw [Nat.mod_self, Nat.xor_zero, Nat.mod_eq_of_lt h1] at h2
  exact h2.symm
theorem bfs_mod {P n c : Nat} (hP : Dg P n) (hn : 1 ≤ n) : bfs (P % 2 ^ n) n c % 2 ^ n = cmod P (2 * (c % 2 ^ n)) := by
  have hd : c % 2 ^ n < 2 ^ n := Nat.mod_lt _ (Nat.two_pow_pos n)
  have e2 : 2 * c % 2 ^ n = 2 * (c % 2 ^ n) % 2 ^ n := by rw [Nat.mul_mod, Nat.mul_mod 2 (c % 2 ^ n), Nat.mod_mod]
  have ep : 2 ^ n = 2 * 2 ^ (n - 1) := by rw [← Nat.pow_succ']; congr 1; omega
  have et : c.testBit (n - 1) = (c % 2 ^ n).testBit (n - 1) := by rw [Nat.testBit_mod_two_pow, decide_eq_true (by omega : n - 1 < n), Bool.true_and]
  refine (cmod_eq hP (Nat.mod_lt _ (Nat.two_pow_pos n)) ?_).symm
  unfold bfs
  rw [et]
  generalize hdd : c % 2 ^ n = d at hd e2 et ⊢
  by_cases h : d.testBit (n - 1) = true
  · have hge : 2 ^ (n - 1) ≤ d := Nat.le_of_not_lt fun hl => by rw [Nat.testBit_lt_two_pow hl] at h; exact absurd h (by decide)
    have hD : Dg (2 * d) n := ⟨by omega, by rw [Nat.pow_succ]; omega⟩
    rw [if_pos h, show (2 * c ^^^ P % 2 ^ n) % 2 ^ n = 2 * c % 2 ^ n ^^^ P % 2 ^ n % 2 ^ n from Nat.xor_mod_two_pow, Nat.mod_mod, e2, hD.low, hP.low, xor4, Nat.xor_self, Nat.xor_zero, xor_cancel]
    exact Mlt.self P
  · have hlt : d < 2 ^ (n - 1) := Nat.lt_of_not_le fun hl => h (Dg.tb ⟨hl, by rw [← Nat.pow_succ'] at ep; rw [show n - 1 + 1 = n by omega]; exact hd⟩)
    rw [if_neg h, e2, Nat.mod_eq_of_lt (by omega : 2 * d < 2 ^ n), Nat.xor_self]
    exact Mlt.zero P
theorem itn_bfs_mod {P n c : Nat} (hP : Dg P n) (hn : 1 ≤ n) : ∀ k, itn k (bfs (P % 2 ^ n) n) c % 2 ^ n = cmod P (c % 2 ^ n * 2 ^ k)
  | 0 => by rw [itn, Nat.pow_zero, Nat.mul_one, cmod_small hP (Nat.mod_lt _ (Nat.two_pow_pos n))]
  | k + 1 => by
    rw [itn, bfs_mod hP hn, itn_bfs_mod hP hn k, Nat.mul_comm 2]
    have := cmod_shl hP (c % 2 ^ n * 2 ^ k) 1
    rw [Nat.pow_one] at this
    rw [this, Nat.mul_assoc, ← Nat.pow_succ]
theorem brL_two {n c : Nat} (hc : c < 2 ^ n) : 2 * brL n c = (c % 2) * 2 ^ n + brL n (c / 2) := by
  have h1 := brL_add n c 1
  have h2 := brL_add 1 c n
  rw [Nat.add_comm 1 n, h1] at h2
  have e0 : c >>> n = 0 := by rw [Nat.shiftRight_eq_div_pow]; exact Nat.div_eq_of_lt hc
  have e1 : brL 1 c = c % 2 := by simp [brL]
  rw [e0, brL_zero, e1, Nat.shiftRight_eq_div_pow] at h2
  simpa [Nat.mul_comm] using h2
theorem bfr_rev {P n c : Nat} (hP : Dg P n) (hc : c < 2 ^ n) : brL n (bfr (brL n (P % 2 ^ n)) c) = cmod P (2 * brL n c) := by
  refine (cmod_eq hP (brL_lt _ _) ?_).symm
  rw [brL_two hc]
  unfold bfr
  by_cases h : c % 2 = 1
  · rw [if_pos h, h, brL_xor, brL_brL (Nat.mod_lt _ (Nat.two_pow_pos n)), add_eq_xor (brL_lt _ _), Nat.one_mul, hP.low, Nat.xor_comm (2 ^ n), xor4, Nat.xor_self, Nat.zero_xor, Nat.xor_comm P, xor_cancel]
    exact Mlt.self P
  · rw [if_neg h, show c % 2 = 0 by omega, Nat.zero_mul, Nat.zero_add, Nat.xor_self]
    exact Mlt.zero P
theorem itn_bfr_rev {P n c : Nat} (hP : Dg P n) (hc : c < 2 ^ n) : ∀ k, brL n (itn k (bfr (brL n (P % 2 ^ n))) c) = cmod P (brL n c * 2 ^ k)
  | 0 => by rw [itn, Nat.pow_zero, Nat.mul_one, cmod_small hP (brL_lt _ _)]
  | k + 1 => by
    rw [itn, bfr_rev hP (itn_bfr_lt (brL_lt _ _) hc k), itn_bfr_rev hP hc k, Nat.mul_comm 2]
    have := cmod_shl hP (brL n c * 2 ^ k) 1
    rw [Nat.pow_one] at this
    rw [this, Nat.mul_assoc, ← Nat.pow_succ]
theorem rowF_eq {P n k : Nat} (hP : Dg P n) (hn : 8 ≤ n) (hk : k < 256) : rowF P n k = cmod P (k * 2 ^ n) := by
  unfold rowF
  rw [itn_bfs_mod hP (by omega), Nat.mod_eq_of_lt (shl_lt hk hn), Nat.shiftLeft_eq, Nat.mul_assoc, ← Nat.pow_add, show n - 8 + 8 = n by omega]
theorem brL_byte {n k : Nat} (hn : 8 ≤ n) (hk : k < 256) : brL n k = brL 8 k * 2 ^ (n - 8) := by
  have := brL_add 8 k (n - 8)
  rw [show 8 + (n - 8) = n by omega, show k >>> 8 = 0 by rw [Nat.shiftRight_eq_div_pow]; exact Nat.div_eq_of_lt hk, brL_zero] at this
  exact this
theorem rowR_eq {P n k : Nat} (hP : Dg P n) (hn : 8 ≤ n) (hk : k < 256) : rowR P n k = brL n (cmod P (brL 8 k * 2 ^ n)) := by
  have hk' : k < 2 ^ n := Nat.lt_of_lt_of_le (show k < 2 ^ 8 from hk) (Nat.pow_le_pow_right (by decide) hn)
  have h := itn_bfr_rev hP hk' 8
  rw [brL_byte hn hk, Nat.mul_assoc, ← Nat.pow_add, show n - 8 + 8 = n by omega] at h
  rw [← h, rowR, brL_brL (itn_bfr_lt (brL_lt _ _) hk' 8)]
theorem tabRows_lin {f g : Nat → Nat} (hfg : ∀ j, j < 8 → f (2 ^ j) = g (2 ^ j)) (hg : ∀ a b, g (a ^^^ b) = g a ^^^ g b) : ∀ j, j ≤ 8 → ∀ i, i < 2 ^ j → (tabRows f j).getD i 0 = g i := by
  have g0 : g 0 = 0 := by have := hg 0 0; simpa using this
  intro j
  induction j with
  | zero => intro _ i hi; have : i = 0 := by simpa using hi
            subst this; simp [tabRows, g0]
  | succ j ih =>
    intro hj i hi
    have hk : [1, 2, 4, 8, 16, 32, 64, 128][j]? = some (2 ^ j) := by
      have : j = 0 ∨ j = 1 ∨ j = 2 ∨ j = 3 ∨ j = 4 ∨ j = 5 ∨ j = 6 ∨ j = 7 := by omega
      rcases this with rfl | rfl | rfl | rfl | rfl | rfl | rfl | rfl <;> rfl
    have hl := tabRows_len f j (by omega)
    rw [tabRows_succ hk, List.getD_eq_getElem?_getD]
    by_cases h : i < 2 ^ j
    · rw [List.getElem?_append_left (by omega), ← List.getD_eq_getElem?_getD]
      exact ih (by omega) i h
    · rw [Nat.pow_succ] at hi
      have h2 : i - 2 ^ j < 2 ^ j := by omega
      rw [List.getElem?_append_right (by omega), hl, List.getElem?_map]
      have := ih (by omega) (i - 2 ^ j) h2
      rw [List.getD_eq_getElem?_getD] at this
      have hs : ∃ v, (tabRows f j)[i - 2 ^ j]? = some v := ⟨_, List.getElem?_eq_getElem (by omega)⟩
      obtain ⟨v, hv⟩ := hs
      rw [hv] at this ⊢
      simp only [Option.getD_some] at this
      simp only [Option.map_some, Option.getD_some]
      rw [this, hfg j (by omega), ← hg]
      congr 1
      have := add_eq_xor (a := 1) h2
      rw [Nat.one_mul] at this
      omega
theorem mul_pow_lin {P n : Nat} (hP : Dg P n) (k a b : Nat) : cmod P ((a ^^^ b) * 2 ^ k) = cmod P (a * 2 ^ k) ^^^ cmod P (b * 2 ^ k) := by rw [mul_pow_xor, cmod_xor hP]
theorem tabF_at {P n i : Nat} (hP : Dg P n) (hn : 8 ≤ n) (hi : i < 256) : (tabOf (rowF P n)).getD i 0 = cmod P (i * 2 ^ n) :=
  tabRows_lin (f := rowF P n) (g := fun i => cmod P (i * 2 ^ n)) (fun j hj => rowF_eq hP hn (Nat.pow_lt_pow_right (by decide) hj : 2 ^ j < 2 ^ 8)) (fun a b => mul_pow_lin hP n a b) 8 (Nat.le_refl _) i hi
theorem tabR_at {P n i : Nat} (hP : Dg P n) (hn : 8 ≤ n) (hi : i < 256) : (tabOf (rowR P n)).getD i 0 = brL n (cmod P (brL 8 i * 2 ^ n)) :=
  tabRows_lin (f := rowR P n) (g := fun i => brL n (cmod P (brL 8 i * 2 ^ n))) (fun j hj => rowR_eq hP hn (Nat.pow_lt_pow_right (by decide) hj : 2 ^ j < 2 ^ 8)) (fun a b => by rw [brL_xor, mul_pow_lin hP, brL_xor]) 8 (Nat.le_refl _) i hi
theorem stepF_eq {P n c x : Nat} (hP : Dg P n) (hn : 8 ≤ n) (hc : c < 2 ^ n) (hx : x < 256) : stepF n (tabOf (rowF P n)) c x = cmod P (c * 2 ^ 8 ^^^ x * 2 ^ n) := by
  have hh : c >>> (n - 8) < 256 := by
    rw [Nat.shiftRight_eq_div_pow]
    refine Nat.div_lt_of_lt_mul ?_
    rw [Nat.mul_comm, ← pow8 hn]; exact hc
  unfold stepF
  rw [tabF_at hP hn (byte_xor hx hh), mul_pow_lin hP, cmod_xor hP, Nat.xor_comm (cmod P (c * 2 ^ 8)), Nat.xor_assoc]
  congr 1
  have e : c * 2 ^ 8 = (c >>> (n - 8)) * 2 ^ n ^^^ (c <<< 8) % 2 ^ n := by
    rw [← add_eq_xor (Nat.mod_lt _ (Nat.two_pow_pos n)), Nat.shiftRight_eq_div_pow, Nat.shiftLeft_eq]
    have h1 := Nat.div_add_mod (c * 2 ^ 8) (2 ^ n)
    have h2 : c * 2 ^ 8 / 2 ^ n = c / 2 ^ (n - 8) := by
      rw [show 2 ^ n = 2 ^ (n - 8) * 2 ^ 8 by rw [← Nat.pow_add]; congr 1; omega]
      exact Nat.mul_div_mul_right _ _ (by decide)
    rw [h2, Nat.mul_comm (2 ^ n)] at h1
    exact h1.symm
  rw [e, cmod_xor hP, cmod_small hP (Nat.mod_lt _ (Nat.two_pow_pos n))]
theorem stepR_eq {P n c x : Nat} (hP : Dg P n) (hn : 8 ≤ n) (hc : c < 2 ^ n) (hx : x < 256) : brL n (stepR (tabOf (rowR P n)) c x) = cmod P (brL n c * 2 ^ 8 ^^^ brL 8 x * 2 ^ n) := by
  have hh : c % 256 < 256 := Nat.mod_lt _ (by decide)
  unfold stepR
  rw [tabR_at hP hn (byte_xor hx hh), brL_xor, brL_brL (cmod_lt hP _), brL_xor, mul_pow_lin hP, cmod_xor hP, Nat.xor_comm (cmod P (brL n c * 2 ^ 8)), Nat.xor_assoc]
  congr 1
  have e : brL n c * 2 ^ 8 = brL 8 (c % 256) * 2 ^ n ^^^ brL n (c >>> 8) := by
    have h1 := brL_add n c 8
    have h2 := brL_add 8 c n
    rw [Nat.add_comm 8 n, h1] at h2
    have e0 : c >>> n = 0 := by rw [Nat.shiftRight_eq_div_pow]; exact Nat.div_eq_of_lt hc
    rw [e0, brL_zero, Nat.add_zero] at h2
    rw [h2, add_eq_xor (brL_lt _ _), brL_low 8 c 8 (Nat.le_refl _)]
  rw [e, cmod_xor hP, cmod_small hP (brL_lt _ _)]
/-- the bits in the order in which they are sent -/
def lay (r : Bool) (n x : Nat) : Nat := if r then brL n x else x
theorem lay_xor (r : Bool) (n a b : Nat) : lay r n (a ^^^ b) = lay r n a ^^^ lay r n b := by
  cases r
  · rfl
  · exact brL_xor n a b
theorem lay_lay {r : Bool} {n x : Nat} (h : x < 2 ^ n) : lay r n (lay r n x) = x := by
  cases r
  · rfl
  · exact brL_brL h
theorem lay_lt {r : Bool} {n x : Nat} (h : x < 2 ^ n) : lay r n x < 2 ^ n := by
  cases r
  · exact h
  · exact brL_lt _ _
/-- the number that octets are, the first sent bit the highest -/
def msgOf (r : Bool) : List Nat → Nat
  | [] => 0
  | x :: l => lay r 8 x * 2 ^ (8 * l.length) + msgOf r l
theorem msgOf_lt (r : Bool) : ∀ l : List Nat, (∀ x ∈ l, x < 256) → msgOf r l < 2 ^ (8 * l.length)
  | [], _ => by simp [msgOf]
  | x :: l, h => by
    have h1 := msgOf_lt r l fun y hy => h y (.tail _ hy)
    have h2 : lay r 8 x < 2 ^ 8 := lay_lt (h x (.head _))
    rw [msgOf, List.length_cons, show 8 * (l.length + 1) = 8 + 8 * l.length by omega, Nat.pow_add]
    generalize 2 ^ (8 * l.length) = z at h1
    have : (lay r 8 x + 1) * z ≤ 2 ^ 8 * z := Nat.mul_le_mul_right z h2
    rw [Nat.add_mul] at this
    omega
def stepG (n : Nat) (r : Bool) (P : Nat) : Nat → Nat → Nat := if r then stepR (tabOf (rowR P n)) else stepF n (tabOf (rowF P n))
theorem stepG_eq {P n c x : Nat} (r : Bool) (hP : Dg P n) (hn : 8 ≤ n) (hc : c < 2 ^ n) (hx : x < 256) : lay r n (stepG n r P c x) = cmod P (lay r n c * 2 ^ 8 ^^^ lay r 8 x * 2 ^ n) := by
  cases r
  · exact stepF_eq hP hn hc hx
  · exact stepR_eq hP hn hc hx
theorem lay_inj {r : Bool} {n a b : Nat} (ha : a < 2 ^ n) (hb : b < 2 ^ n) (h : lay r n a = lay r n b) : a = b := by
  rw [← lay_lay (r := r) ha, h, lay_lay hb]
theorem foldG {P n : Nat} (r : Bool) (hP : Dg P n) (hn : 8 ≤ n) : ∀ (l : List Nat) (c y : Nat), (∀ c, c < 2 ^ n → ∀ x, stepG n r P c x < 2 ^ n) → (∀ x ∈ l, x < 256) → c < 2 ^ n → lay r n c = cmod P y →
    lay r n (l.foldl (stepG n r P) c) = cmod P (y * 2 ^ (8 * l.length) ^^^ msgOf r l * 2 ^ n)
  | [], c, y, _, _, _, h => by simpa [msgOf] using h
  | x :: l, c, y, hs, hl, hc, h => by
    have hx := hl x (.head _)
    have h1 := stepG_eq r hP hn hc hx
    rw [h, cmod_xor hP, cmod_shl hP, ← cmod_xor hP] at h1
    rw [List.foldl_cons, foldG r hP hn l _ _ hs (fun y hy => hl y (.tail _ hy)) (hs c hc x) h1]
    congr 1
    rw [msgOf, add_eq_xor (msgOf_lt r l fun y hy => hl y (.tail _ hy)), mul_pow_xor, mul_pow_xor, List.length_cons, Nat.mul_assoc, ← Nat.pow_add, Nat.xor_assoc, show 8 + 8 * l.length = 8 * (l.length + 1) by omega]
    congr 2
    rw [Nat.mul_assoc, Nat.mul_assoc, Nat.mul_comm (2 ^ n)]
end Mine
namespace Mine
/-- the bits s places apart -/
def spr (s v : Nat) : Nat := if v = 0 then 0 else v % 2 + spr s (v / 2) * 2 ^ s
termination_by v
decreasing_by omega
theorem spr_zero (s : Nat) : spr s 0 = 0 := by rw [spr]; simp
theorem spr_bit (s v : Nat) : spr s v = v % 2 + spr s (v / 2) * 2 ^ s := by
  by_cases h : v = 0
  · subst h; simp [spr_zero]
  · rw [spr, if_neg h]
theorem mod2_lt {v s : Nat} (hs : 1 ≤ s) : v % 2 < 2 ^ s := Nat.lt_of_lt_of_le (Nat.mod_lt _ (by decide)) (show 2 ^ 1 ≤ 2 ^ s from Nat.pow_le_pow_right (by decide) hs)
theorem spr_bitx {s : Nat} (hs : 1 ≤ s) (v : Nat) : spr s v = v % 2 ^^^ spr s (v / 2) * 2 ^ s := by
  rw [spr_bit, Nat.add_comm, add_eq_xor (mod2_lt hs), Nat.xor_comm]
theorem shl_testBit (x k i : Nat) : (x * 2 ^ k).testBit i = (decide (k ≤ i) && x.testBit (i - k)) := by rw [← Nat.shiftLeft_eq, Nat.testBit_shiftLeft]
theorem mod2_testBit (v i : Nat) : (v % 2).testBit i = (decide (i = 0) && v.testBit 0) := by
  have := Nat.testBit_mod_two_pow v 1 i
  rw [Nat.pow_one] at this
  rw [this]
  by_cases h : i = 0
  · subst h; rfl
  · rw [decide_eq_false h, decide_eq_false (by omega : ¬ i < 1)]; rfl
theorem spr_testBit {s : Nat} (hs : 1 ≤ s) (v : Nat) : ∀ i, (spr s v).testBit i = (decide (i % s = 0) && v.testBit (i / s)) := by
  induction v using Nat.strongRecOn with
  | _ v ih =>
    intro i
    by_cases h : v = 0
    · subst h; simp [spr_zero]
    · rw [spr_bitx hs, Nat.testBit_xor, mod2_testBit, shl_testBit, ih (v / 2) (by omega)]
      by_cases h0 : s ≤ i
      · have h1 : i ≠ 0 := by omega
        rw [decide_eq_false h1, decide_eq_true h0, Bool.false_and, Bool.false_xor, Bool.true_and]
        have e1 : (i - s) % s = i % s := (Nat.mod_eq_sub_mod h0).symm
        have e2 : i / s = (i - s) / s + 1 := Nat.div_eq_sub_div hs h0
        rw [e1, e2, Nat.testBit_succ]
      · rw [decide_eq_false h0, Bool.false_and, Bool.xor_false, Nat.mod_eq_of_lt (by omega), Nat.div_eq_of_lt (by omega)]
theorem spr_xor {s : Nat} (hs : 1 ≤ s) (a b : Nat) : spr s (a ^^^ b) = spr s a ^^^ spr s b := by
  apply Nat.eq_of_testBit_eq
  intro i
  rw [Nat.testBit_xor, spr_testBit hs, spr_testBit hs, spr_testBit hs, Nat.testBit_xor]
  cases decide (i % s = 0) <;> simp
theorem spr_two (s a : Nat) : spr s (2 * a) = spr s a * 2 ^ s := by
  rw [spr_bit, show 2 * a % 2 = 0 by omega, show 2 * a / 2 = a by omega, Nat.zero_add]
theorem spr_shl (s a : Nat) : ∀ t, spr s (a * 2 ^ t) = spr s a * 2 ^ (s * t)
  | 0 => by simp
  | t + 1 => by rw [Nat.pow_succ, ← Nat.mul_assoc, Nat.mul_comm _ 2, spr_two, spr_shl s a t, Nat.mul_assoc, ← Nat.pow_add, Nat.mul_succ]
theorem spr_cmul {s : Nat} (hs : 1 ≤ s) (a b : Nat) : spr s (cmul a b) = cmul (spr s a) (spr s b) := by
  induction b using Nat.strongRecOn with
  | _ b ih =>
    by_cases h : b = 0
    · subst h; simp [cmul_zero, spr_zero]
    · rw [cmul_bit, spr_xor hs, spr_two, ih (b / 2) (by omega), spr_bitx hs b, cmul_xor_right, cmul_shl]
      congr 1
      rcases Nat.mod_two_eq_zero_or_one b with h1 | h1 <;> rw [h1] <;> simp [cmul_zero, cmul_one, spr_zero]
theorem spr_dg {s : Nat} (hs : 1 ≤ s) : ∀ n a, Dg a n → Dg (spr s a) (s * n)
  | 0, a, h => by
    have : a = 1 := by have h1 := h.1; have h2 := h.2; simp at h1 h2; omega
    subst this
    rw [spr_bit]; simp [spr_zero]; exact Dg.pow 0
  | n + 1, a, h => by
    have hb2 : Dg (a / 2) n := by
      have h1 := h.1
      have h2 := h.2
      rw [Nat.pow_succ] at h1
      rw [Nat.pow_succ] at h2
      exact ⟨by omega, by omega⟩
    have h1 := (spr_dg hs n (a / 2) hb2).shl s
    rw [spr_bitx hs, Nat.xor_comm, Nat.mul_succ]
    refine Dg.xor_low h1 (Nat.lt_of_lt_of_le (mod2_lt hs) (Nat.pow_le_pow_right (by decide) (by omega)))
theorem spr_at {s p : Nat} (hs : 1 ≤ s) (hp : p < s) (v i : Nat) : (spr s v * 2 ^ p).testBit i = (decide (i % s = p) && v.testBit (i / s)) := by
  rw [shl_testBit, spr_testBit hs]
  have hd := Nat.div_add_mod i s
  by_cases h : i % s = p
  · rw [h] at hd
    have e : i - p = s * (i / s) := by omega
    rw [decide_eq_true h, decide_eq_true (by omega : p ≤ i), e, Nat.mul_mod_right, Nat.mul_div_cancel_left _ hs]; simp
  · rw [decide_eq_false h]
    by_cases h0 : p ≤ i
    · have : ¬ (i - p) % s = 0 := fun h1 => by
        have h2 := Nat.div_add_mod (i - p) s
        rw [h1] at h2
        have h3 : i = p + s * ((i - p) / s) := by omega
        rw [h3, Nat.add_mul_mod_self_left, Nat.mod_eq_of_lt hp] at h
        exact h rfl
      rw [decide_eq_false this]; simp
    · rw [decide_eq_false h0]; simp
/-- the rows' bits woven, as the program puts them together -/
def wor (s : Nat) (f : Nat → Nat) : Nat → Nat
  | 0 => 0
  | k + 1 => wor s f k ||| spr s (f k) * 2 ^ (s - 1 - k)
def wov (s : Nat) (f : Nat → Nat) : Nat → Nat
  | 0 => 0
  | k + 1 => wov s f k ^^^ spr s (f k) * 2 ^ (s - 1 - k)
theorem wor_testBit {s : Nat} (hs : 1 ≤ s) (f : Nat → Nat) : ∀ k, k ≤ s → ∀ i, (wor s f k).testBit i = (decide (s - k ≤ i % s) && (f (s - 1 - i % s)).testBit (i / s))
  | 0, _, i => by
    have : i % s < s := Nat.mod_lt _ hs
    rw [decide_eq_false (by omega : ¬ s - 0 ≤ i % s)]; simp [wor]
  | k + 1, hk, i => by
    have hm : i % s < s := Nat.mod_lt _ hs
    rw [wor, Nat.testBit_or, wor_testBit hs f k (by omega), spr_at hs (by omega : s - 1 - k < s)]
    by_cases h : i % s = s - 1 - k
    · rw [decide_eq_true h, decide_eq_false (by omega : ¬ s - k ≤ i % s), decide_eq_true (by omega : s - (k + 1) ≤ i % s), show s - 1 - i % s = k by omega]; simp
    · rw [decide_eq_false h]
      by_cases h2 : s - k ≤ i % s
      · rw [decide_eq_true h2, decide_eq_true (by omega : s - (k + 1) ≤ i % s)]; simp
      · rw [decide_eq_false h2, decide_eq_false (by omega : ¬ s - (k + 1) ≤ i % s)]; simp
theorem wov_testBit {s : Nat} (hs : 1 ≤ s) (f : Nat → Nat) : ∀ k, k ≤ s → ∀ i, (wov s f k).testBit i = (decide (s - k ≤ i % s) && (f (s - 1 - i % s)).testBit (i / s))
  | 0, _, i => by
    have : i % s < s := Nat.mod_lt _ hs
    rw [decide_eq_false (by omega : ¬ s - 0 ≤ i % s)]; simp [wov]
  | k + 1, hk, i => by
    have hm : i % s < s := Nat.mod_lt _ hs
    rw [wov, Nat.testBit_xor, wov_testBit hs f k (by omega), spr_at hs (by omega : s - 1 - k < s)]
    by_cases h : i % s = s - 1 - k
    · rw [decide_eq_true h, decide_eq_false (by omega : ¬ s - k ≤ i % s), decide_eq_true (by omega : s - (k + 1) ≤ i % s), show s - 1 - i % s = k by omega]; simp
    · rw [decide_eq_false h]
      by_cases h2 : s - k ≤ i % s
      · rw [decide_eq_true h2, decide_eq_true (by omega : s - (k + 1) ≤ i % s)]; simp
      · rw [decide_eq_false h2, decide_eq_false (by omega : ¬ s - (k + 1) ≤ i % s)]; simp
theorem wor_eq {s : Nat} (hs : 1 ≤ s) (f : Nat → Nat) : wor s f s = wov s f s := by
  apply Nat.eq_of_testBit_eq
  intro i
  rw [wor_testBit hs f s (Nat.le_refl _), wov_testBit hs f s (Nat.le_refl _)]
theorem wov_lt {s n : Nat} (hs : 1 ≤ s) {f : Nat → Nat} (hf : ∀ j, j < s → f j < 2 ^ n) : wov s f s < 2 ^ (s * n) := by
  refine Nat.lt_pow_two_of_testBit _ fun i hi => ?_
  rw [wov_testBit hs f s (Nat.le_refl _)]
  have h1 : n ≤ i / s := (Nat.le_div_iff_mul_le hs).mpr (by rw [Nat.mul_comm]; exact hi)
  have := hf (s - 1 - i % s) (by omega)
  have h3 : (f (s - 1 - i % s)).testBit (i / s) = false := Nat.testBit_lt_two_pow (Nat.lt_of_lt_of_le this (Nat.pow_le_pow_right (by decide) h1))
  rw [h3]; simp
theorem wov_congr {s : Nat} {f g : Nat → Nat} : ∀ k, (∀ j, j < k → f j = g j) → wov s f k = wov s g k
  | 0, _ => rfl
  | k + 1, h => by rw [wov, wov, wov_congr k fun j hj => h j (by omega), h k (by omega)]
theorem wor_congr {s : Nat} {f g : Nat → Nat} : ∀ k, (∀ j, j < k → f j = g j) → wor s f k = wor s g k
  | 0, _ => rfl
  | k + 1, h => by rw [wor, wor, wor_congr k fun j hj => h j (by omega), h k (by omega)]
theorem wov_xor {s : Nat} (hs : 1 ≤ s) (f g : Nat → Nat) : ∀ k, wov s (fun j => f j ^^^ g j) k = wov s f k ^^^ wov s g k
  | 0 => by simp [wov]
  | k + 1 => by rw [wov, wov, wov, wov_xor hs f g k, spr_xor hs, mul_pow_xor, xor4]
theorem wov_shl (s t : Nat) (f : Nat → Nat) : ∀ k, wov s (fun j => f j * 2 ^ t) k = wov s f k * 2 ^ (s * t)
  | 0 => by simp [wov]
  | k + 1 => by
    rw [wov, wov, wov_shl s t f k, spr_shl, mul_pow_xor]
    congr 1
    rw [Nat.mul_assoc, Nat.mul_assoc, Nat.mul_comm (2 ^ _)]
theorem wov_mlt {s P : Nat} (hs : 1 ≤ s) {f : Nat → Nat} : ∀ k, (∀ j, j < k → Mlt P (f j)) → Mlt (spr s P) (wov s f k)
  | 0, _ => Mlt.zero _
  | k + 1, h => by
    obtain ⟨q, hq⟩ := h k (by omega)
    rw [wov, hq, spr_cmul hs]
    exact (wov_mlt hs k fun j hj => h j (by omega)).xor (((Mlt.self _).mul _).shl _)
theorem wov_mod {s n P : Nat} (hs : 1 ≤ s) (hP : Dg P n) (f : Nat → Nat) : cmod (spr s P) (wov s f s) = wov s (fun j => cmod P (f j)) s := by
  refine cmod_eq (spr_dg hs n P hP) (wov_lt hs fun j _ => cmod_lt hP _) ?_
  rw [← wov_xor hs]
  exact wov_mlt hs s fun j _ => cmod_mlt hP _
theorem wov_nil {s : Nat} {f : Nat → Nat} : ∀ k, (∀ j, j < k → f j = 0) → wov s f k = 0
  | 0, _ => rfl
  | k + 1, h => by rw [wov, wov_nil k fun j hj => h j (by omega), h k (by omega)]; simp [spr_zero]
theorem wov_last {s : Nat} (hs : 1 ≤ s) {f : Nat → Nat} (h : ∀ j, j < s - 1 → f j = 0) : wov s f s = spr s (f (s - 1)) := by
  obtain ⟨t, rfl⟩ : ∃ t, s = t + 1 := ⟨s - 1, by omega⟩
  rw [wov, wov_nil t fun j hj => h j (by simpa using hj)]; simp
/-- the law: the woven sum of the lanes is the sum of what is woven -/
theorem weave_law {s n P : Nat} (hs : 1 ≤ s) (hP : Dg P n) (x t : Nat) (c m : Nat → Nat) :
    wov s (fun _ => x) s ^^^ cmod (spr s P) ((wov s (fun _ => x) s ^^^ wov s c s) * 2 ^ (s * t) ^^^ wov s m s * 2 ^ (s * n))
      = wov s (fun j => x ^^^ cmod P ((x ^^^ c j) * 2 ^ t ^^^ m j * 2 ^ n)) s := by
  rw [wov_xor hs (fun _ => x) (fun j => cmod P ((x ^^^ c j) * 2 ^ t ^^^ m j * 2 ^ n))]
  congr 1
  rw [← wov_mod hs hP, wov_xor hs (fun j => (x ^^^ c j) * 2 ^ t) (fun j => m j * 2 ^ n), wov_shl, wov_shl, wov_xor hs (fun _ => x) c]
/-- one turn of the inner loop -/
theorem spr_turn {s v p o : Nat} (hs : 1 ≤ s) : o ||| spr s v * 2 ^ p = (if v % 2 = 1 then o ||| 2 ^ p else o) ||| spr s (v / 2) * 2 ^ (p + s) := by
  have e : spr s v * 2 ^ p = (if v % 2 = 1 then 2 ^ p else 0) ||| spr s (v / 2) * 2 ^ (p + s) := by
    have h1 : spr s v * 2 ^ p = (v % 2) * 2 ^ p + spr s (v / 2) * 2 ^ (p + s) := by
      rw [spr_bit, Nat.add_mul, Nat.mul_assoc, ← Nat.pow_add, Nat.add_comm s p]
    have hlt : (v % 2) * 2 ^ p < 2 ^ (p + s) := by
      rw [Nat.pow_add, Nat.mul_comm]
      exact Nat.mul_lt_mul_of_pos_left (mod2_lt hs) (Nat.two_pow_pos p)
    have h3 := or_add_and (spr s (v / 2) * 2 ^ (p + s)) ((v % 2) * 2 ^ p)
    have h4 := xor_add_and (spr s (v / 2) * 2 ^ (p + s)) ((v % 2) * 2 ^ p)
    have h5 := add_eq_xor (a := spr s (v / 2)) hlt
    rw [h1, Nat.or_comm]
    rcases Nat.mod_two_eq_zero_or_one v with h | h <;> rw [h] at h3 h4 h5 ⊢ <;> simp at h3 h4 h5 ⊢ <;> omega
  rw [e]
  split
  · rw [Nat.or_assoc]
  · simp
end Mine
namespace Mine
def litN : Nat → Nat → List Nat
  | 0, _ => []
  | n + 1, x => x % 256 :: litN n (x / 256)
theorem litN_length : ∀ n x, (litN n x).length = n
  | 0, _ => rfl
  | n + 1, x => by rw [litN, List.length_cons, litN_length n]
theorem litN_lt : ∀ n x, ∀ y ∈ litN n x, y < 256
  | 0, _ => fun y hy => nomatch hy
  | n + 1, x => fun y hy => by
    rcases List.mem_cons.mp hy with rfl | hy
    · exact Nat.mod_lt _ (by decide)
    · exact litN_lt n _ y hy
theorem little_cast : ∀ (n x : Nat), KTBy.little n (x : Int) = (litN n x).map (fun y : Nat => (y : Int))
  | 0, _ => rfl
  | n + 1, x => by
    rw [litN, List.map_cons, ← little_cast n (x / 256)]
    rfl
theorem bInts_octs (b : Array UInt8) : KBw.bInts b = (octs b).map (fun y : Nat => (y : Int)) := by
  unfold octs
  rw [List.map_map]
  rfl
theorem octs_of {b : Array UInt8} {l : List Nat} (h : KBw.bInts b = l.map (fun y : Nat => (y : Int))) : octs b = l := by
  rw [bInts_octs] at h
  have h2 := congrArg (List.map Int.toNat) h
  rw [List.map_map, List.map_map] at h2
  have e : (Int.toNat ∘ fun y : Nat => (y : Int)) = id := by funext y; simp
  rw [e, List.map_id, List.map_id] at h2
  exact h2
theorem octs_length (b : Array UInt8) : (octs b).length = b.size := by unfold octs; simp
theorem octs_lt (b : Array UInt8) : ∀ x ∈ octs b, x < 256 := by
  intro x hx
  unfold octs at hx
  obtain ⟨c, _, rfl⟩ := List.mem_map.mp hx
  exact c.toNat_lt
theorem octs_inj {a b : Array UInt8} (h : octs a = octs b) : a = b := by
  unfold octs at h
  have : a.toList = b.toList := by
    have inj : ∀ l m : List UInt8, l.map (·.toNat) = m.map (·.toNat) → l = m := by
      intro l
      induction l with
      | nil => intro m hm; cases m with
        | nil => rfl
        | cons y m => simp at hm
      | cons x l ih => intro m hm; cases m with
        | nil => simp at hm
        | cons y m =>
          simp only [List.map_cons, List.cons.injEq] at hm
          rw [ih m hm.2, UInt8.toNat_inj.mp hm.1]
    exact inj _ _ h
  exact Array.toList_inj.mp this
theorem msgOf_append (r : Bool) (b : List Nat) : ∀ a : List Nat, msgOf r (a ++ b) = msgOf r a * 2 ^ (8 * b.length) + msgOf r b
  | [] => by simp [msgOf]
  | x :: a => by
    rw [List.cons_append, msgOf, msgOf, msgOf_append r b a, Nat.add_mul, Nat.mul_assoc, ← Nat.pow_add, List.length_append, show 8 * (a.length + b.length) = 8 * a.length + 8 * b.length by omega, Nat.add_assoc]
theorem msg_big : ∀ k X, X < 2 ^ (8 * k) → msgOf false (litN k X).reverse = X
  | 0, X, h => by simp at h; subst h; rfl
  | k + 1, X, h => by
    have h8 : X / 256 < 2 ^ (8 * k) := by
      refine Nat.div_lt_of_lt_mul ?_
      rw [show 8 * (k + 1) = 8 + 8 * k by omega, Nat.pow_add] at h; exact h
    rw [litN, List.reverse_cons, msgOf_append, msg_big k _ h8]
    simp [msgOf, lay]
    omega
theorem msg_turned : ∀ k Y, msgOf true (litN k Y) = brL (8 * k) Y
  | 0, Y => rfl
  | k + 1, Y => by
    rw [litN, msgOf, msg_turned k, litN_length, show 8 * (k + 1) = 8 + 8 * k by omega, brL_add 8 Y (8 * k), Nat.shiftRight_eq_div_pow]
    show brL 8 (Y % 256) * _ + _ = _
    rw [show (256 : Nat) = 2 ^ 8 from rfl, brL_low 8 Y 8 (Nat.le_refl _)]
theorem octs_big {b : Array UInt8} {k X : Nat} (h : KBw.bInts b = (KTBy.little k (X : Int)).reverse) (hX : X < 2 ^ (8 * k)) : msgOf false (octs b) = X ∧ b.size = k := by
  rw [little_cast, ← List.map_reverse] at h
  have h2 := octs_of h
  refine ⟨by rw [h2, msg_big k X hX], ?_⟩
  rw [← octs_length, h2, List.length_reverse, litN_length]
theorem octs_little {b : Array UInt8} {k X : Nat} (h : KBw.bInts b = KTBy.little k ((brL (8 * k) X : Nat) : Int)) (hX : X < 2 ^ (8 * k)) : msgOf true (octs b) = X ∧ b.size = k := by
  rw [little_cast] at h
  have h2 := octs_of h
  refine ⟨by rw [h2, msg_turned, brL_brL hX], ?_⟩
  rw [← octs_length, h2, litN_length]
theorem digB_octs (k v : Nat) : (((List.range k).map fun j => ((v >>> (8 * j)) % 256).toUInt8).reverse.map (·.toNat)) = (litN k v).reverse := by
  rw [List.map_reverse]
  congr 1
  induction k generalizing v with
  | zero => rfl
  | succ k ih =>
    rw [List.range_succ_eq_map, List.map_cons, List.map_cons, List.map_map, litN, ← ih (v / 256)]
    congr 1
    · simp [UInt8.toNat_ofNat']
    · rw [List.map_map, List.map_map]
      refine List.map_congr_left fun j _ => ?_
      simp only [Function.comp]
      rw [show 8 * Nat.succ j = 8 + 8 * j by omega, Nat.shiftRight_add, Nat.shiftRight_eq_div_pow v 8]
end Mine
section
namespace Mine
/-- what is to be shown of a call: its value, and the ledger behind it; room of d frames is wanted -/
def Ct (w : World) (d : Nat) (f : Value) (vs : List Value) (news : List (Addr × Obj)) (C : Value → List (Addr × Obj) → Prop) : Prop :=
  ∀ (p : Program) (loose : List Str) (mean : ExcName → Option Value) (mg mb : Str → Option Value) (dp un : Nat) (gd : Option (List Code)) (cn : Str) (cs : Scope) (a : Addr) (ccd : Value) (cl : List (Str × Addr)) (outer : List Env) (A₀ : Around) (base h₀ : Heap) (L : Addr) (m : Str → Option Value) (s : Shared) (Q E : Value → Shared → Prop),
    Below A₀ base outer h₀ → Fr h₀ L s.heap m → (Mine.hd.heap_39 w.params).In h₀ → News h₀ L s.heap news → Top p loose mean mg mb h₀ → cs.kind = .function → dp + d < recursionLimit → un + 16 * d < cLine →
    (∀ r news' h' tk', C r news' → Fr h₀ L h' m → News h₀ L h' news' → Q r { s with heap := h', toks := tk' }) →
    wpAny (model PySem.Challenge.rw_aa5007_03.row.prog w) (ktrTop dp un gd cn cs L a ccd cl outer) (call f vs) Q E s
theorem Ct.use {w : World} {d : Nat} {f : Value} {vs : List Value} {news : List (Addr × Obj)} {C : Value → List (Addr × Obj) → Prop} (h : Ct w d f vs news C)
    {p : Program} {loose : List Str} {mean : ExcName → Option Value} {mg mb : Str → Option Value} {dp un : Nat} {gd : Option (List Code)} {cn : Str} {cs : Scope} {a : Addr} {ccd : Value} {cl : List (Str × Addr)} {outer : List Env} {A₀ : Around} {base h₀ : Heap} {L : Addr} {m : Str → Option Value} {s : Shared} {Q E : Value → Shared → Prop}
    (hB : Below A₀ base outer h₀) (hF : Fr h₀ L s.heap m) (hK : (Mine.hd.heap_39 w.params).In h₀) (hN : News h₀ L s.heap news) (hT : Top p loose mean mg mb h₀) (hcs : cs.kind = .function) (hd : dp + d < recursionLimit) (hu : un + 16 * d < cLine)
    (hret : ∀ r news' h' tk', C r news' → Fr h₀ L h' m → News h₀ L h' news' → Q r { s with heap := h', toks := tk' }) :
    wpAny (model PySem.Challenge.rw_aa5007_03.row.prog w) (ktrTop dp un gd cn cs L a ccd cl outer) (call f vs) Q E s :=
  h p loose mean mg mb dp un gd cn cs a ccd cl outer A₀ base h₀ L m s Q E hB hF hK hN hT hcs hd hu hret
def BrInv (X N : Nat) (pre : List Int) (y x : Int) : Prop := y = ((brL pre.length X : Nat) : Int) ∧ x = ((X >>> pre.length : Nat) : Int) ∧ pre.length ≤ N
theorem BrInv.start {X N : Nat} : BrInv X N [] 0 (X : Int) := ⟨rfl, by simp, by simp⟩
theorem BrInv.turn {X N : Nat} {pre : List Int} {y x k : Int} (h : BrInv X N pre y x) (hl : pre.length < ((N : Int) - 0).toNat) :
    BrInv X N (pre ++ [k]) (Builtin.bitOr (y * 2 ^ Int.toNat 1) (Builtin.bitAnd x 1)) (x.fdiv (2 ^ Int.toNat 1)) := by
  obtain ⟨h1, h2, h3⟩ := h
  subst h1 h2
  refine ⟨?_, ?_, by simp; omega⟩
  · rw [brL_turn]; simp
  · rw [shr1_turn]; simp
theorem BrInv.shl {X N : Nat} {pre : List Int} {y x n : Int} (h : BrInv X N pre y x) (hN : N ≤ 64) (hn : n ≤ 1000) : (Builtin.Int.intBits y : Int) + n ≤ 2 ^ 27 := by
  obtain ⟨h1, h2, h3⟩ := h
  subst h1
  exact shl_bits (brL_lt _ _) (by omega) hn
theorem BrInv.fin {X N : Nat} {y x : Int} (h : BrInv X N (rangeKs 0 ((N : Int) - 0).toNat) y x) : y = ((brL N X : Nat) : Int) := by
  have := h.1
  rw [rangeKs_length] at this
  simpa using this
theorem bitrev_ct (w : World) (X N : Nat) (t u : Tok) (news : List (Addr × Obj)) (hN64 : N ≤ 64) :
    Ct w 2 (.ref 232) [.int (X : Int) t, .int (N : Int) u] news (fun r news' => ∃ t', r = .int ((brL N X : Nat) : Int) t' ∧ news' = news) := by
  unfold Ct
  k_fill
  intro p loose mean mg mb dp un gd cn cs a ccd cl outer A₀ base h₀ L m s Q E hB hF hK hN hT hcs hdp hun hret
  k_dflt (refine wpAny_call ?_)
  k_dflt ktr_enter
  k_with_none
  k_with "state" => first | exact BrInv.turn (by assumption) (by assumption) | exact BrInv.start
  k_with "shl" => exact BrInv.shl (by assumption) hN64 (by decide)
  k_with "pyIter ref" => k_state (fun pre y x => BrInv X N pre y x) "y" "x"
  k_steps
  exact hret _ _ _ _ ⟨_, congrArg (Value.int · _) (BrInv.fin (by assumption)), rfl⟩ (by assumption) (by assumption)
end Mine
end
section
namespace Mine
theorem bytecrc_ct (w : World) (C q N : Nat) (t u v : Tok) (news : List (Addr × Obj)) (hN0 : 8 ≤ N) (hN64 : N ≤ 64) (hC : C < 2 ^ N) (hq : q < 2 ^ N) :
    Ct w 2 (.ref 239) [.int (C : Int) t, .int (q : Int) v, .int (N : Int) u] news (fun r news' => ∃ t', r = .int ((itn 8 (bfs q N) C % 2 ^ N : Nat) : Int) t' ∧ news' = news) := by
  unfold Ct
  k_fill
  intro p loose mean mg mb dp un gd cn cs a ccd cl outer A₀ base h₀ L m s Q E hB hF hK hN hT hcs hdp hun hret
  k_dflt (refine wpAny_call ?_)
  k_dflt ktr_enter
  k_with_none
  k_with "state" => first | exact BcInv.yes (by assumption) hN0 (by assumption) (by assumption) | exact BcInv.no (by assumption) hN0 (by assumption) (by assumption) | exact BcInv.start
  k_with "shl" => exact BcInv.shl (by assumption) hN64 hq hC (by decide)
  k_with "exec For Name Call cons nil" => kpr_for
  k_with "pyIter ref" => k_state_short (fun pre crc => BcInv q N C pre crc) "crc"
  k_steps
  exact hret _ _ _ _ ⟨_, congrArg (Value.int · _) (BcInv.fin (by assumption)), rfl⟩ (by assumption) (by assumption)
theorem bytecrc_r_ct (w : World) (C q N : Nat) (t u v : Tok) (news : List (Addr × Obj)) (hN0 : 8 ≤ N) (hN64 : N ≤ 64) (hC : C < 2 ^ N) (hq : q < 2 ^ N) :
    Ct w 2 (.ref 246) [.int (C : Int) t, .int (q : Int) v, .int (N : Int) u] news (fun r news' => ∃ t', r = .int ((itn 8 (bfr q) C : Nat) : Int) t' ∧ news' = news) := by
  unfold Ct
  k_fill
  intro p loose mean mg mb dp un gd cn cs a ccd cl outer A₀ base h₀ L m s Q E hB hF hK hN hT hcs hdp hun hret
  k_dflt (refine wpAny_call ?_)
  k_dflt ktr_enter
  k_with_none
  k_with "state" => first | exact BrvInv.yes (by assumption) (by assumption) (by assumption) | exact BrvInv.no (by assumption) (by assumption) (by assumption) | exact BrvInv.start
  k_with "exec For Name Call cons nil" => kpr_for
  k_with "pyIter ref" => k_state_short (fun pre crc => BrvInv q N C pre crc) "crc"
  k_steps
  exact hret _ _ _ _ ⟨_, congrArg (Value.int · _) (BrvInv.fin (by assumption) hq hC), rfl⟩ (by assumption) (by assumption)
end Mine
end
section
namespace Mine
theorem bytecrc_ct' (w : World) (C q N : Nat) (c p n : Int) (t u v : Tok) (news : List (Addr × Obj)) (e1 : c = (C : Int)) (e2 : p = (q : Int)) (e3 : n = (N : Int)) (hN0 : 8 ≤ N) (hN64 : N ≤ 64) (hC : C < 2 ^ N) (hq : q < 2 ^ N) :
    Ct w 2 (.ref 239) [.int c t, .int p v, .int n u] news (fun r news' => ∃ t', r = .int ((itn 8 (bfs q N) C % 2 ^ N : Nat) : Int) t' ∧ news' = news) := by
  subst e1 e2 e3
  exact bytecrc_ct w C q N t u v news hN0 hN64 hC hq
end Mine
local macro_rules | `(tactic| walk_at "call ref") => `(tactic| (k_here; (with_reducible show wpAny _ _ (call (Value.ref 239) _) _ _ _); k_dflt (refine' Mine.Ct.use (Mine.bytecrc_ct' _ _ _ _ _ _ _ _ _ _ _ ?e1 ?e2 ?e3 ?h1 ?h2 ?h3 ?h4) ?B ?F ?K ?N ?T ?cs ?dp ?un ?_; (case e1 => ktr_unf); (case e2 => ktr_unf); (case e3 => ktr_unf); (case h1 => omega); (case h2 => omega); (case h3 => k_extra "h3"); (case h4 => k_extra "h4"); (case B => k_asm); (case F => k_asm); (case K => k_asm); (case N => k_asm); (case T => k_asm); (case cs => rfl); (case dp => k_room); (case un => k_units)); (intro r9 n9 h9 tk9 hC F9 N9); obtain ⟨t9, hr9, hn9⟩ := hC; subst hr9 hn9; (try k_sweep)))
namespace Mine
theorem mktab_ct (w : World) (P N : Nat) (t u : Tok) (tab : Array Value) (front rest : List (Addr × Obj)) (hN0 : 8 ≤ N) (hN64 : N ≤ 64) (hfr : ∀ p ∈ front, p.1 ≠ 248) (hr : ∀ p ∈ rest, p.1 ≠ 248)
    (hH : TabHas tab [(⟨180, 19, 180, 67⟩, "_mkTable.<locals>.<lambda>")] rest) :
    Ct w 5 (.ref 251) [.int (P : Int) t, .int (N : Int) u] ((248, tabObj tab) :: (front ++ rest)) (fun r news' => ∃ tb vr t1 add, r = .ref tb ∧ IntsAre vr ((tabOf (rowF P N)).map (fun x : Nat => (x : Int))) ∧ news' = (tb, PySem.W.listOf vr.toArray 0) :: (248, tabObj t1) :: (front ++ (add ++ rest)) ∧
      TabHas t1 [(⟨180, 19, 180, 67⟩, "_mkTable.<locals>.<lambda>")] (add ++ rest) ∧ (∀ p ∈ front ++ rest, p.1 < tb) ∧ 248 < tb ∧ (∀ b ∈ add, b.1 < tb ∧ 248 < b.1) ∧ (∀ b ∈ add, ∀ p ∈ front ++ rest, p.1 < b.1)) := by
  unfold Ct
  k_fill
  intro p loose mean mg mb dp un gd cn cs a ccd cl outer A₀ base h₀ L m s Q E hB hF hK hN hT hcs hdp hun hret
  k_dflt (refine wpAny_call ?_)
  k_dflt k_enter
  k_with_none
  k_with "h3" => exact shl_lt (by omega) (by omega)
  k_with "h4" => exact Nat.mod_lt _ (Nat.two_pow_pos _)
  repeat' ((fail_if_success (with_reducible show wpAny _ _ (eval (PySem.Expr.Lambda _ _ _ _) _) _ _ _)); walk1)
  k_dflt (refine' kla_eval ?d0 ?_; (case d0 => exact rfl))
  refine mk_none ?_
  rename Fr _ _ _ _ => F1
  rename News _ _ _ _ => N1
  have N2 := news_swap2 N1
  k_dflt (refine' tail_any (front := _ :: _ :: front) (rest := rest) ?F ?N ?T ?C ?cd ?hf ?hr ?hH ?hq ?hone ?cl ?_; (case F => exact F1); (case N => exact N2); (case T => k_asm); (case C => exact Mine.codeHd_of (c := 250) (P := 248) (by k_in) (by k_is) rfl rfl rfl rfl rfl (by decide)); (case cd => exact rfl); (case hr => exact hr); (case hH => exact hH); (case hq => exact List.Mem.head _); (case cl => exact rfl); (case hf => (refine List.forall_mem_cons.mpr ⟨?_, List.forall_mem_cons.mpr ⟨?_, hfr⟩⟩ <;> k_ne)); (case hone => intro q hq _ _; rw [List.mem_singleton.mp hq]; exact rfl))
  intro f c' oc vs tt ctv doc ps' add h' tk F' N9 hm hd hv hTH hlf1 hlf2 hlf3 hlf4 hab1 hab2 hab3
  have N' := news_swap2b N9
  clear N9 N2 N1
  (try k_sweep)
  repeat' ((fail_if_success (with_reducible show wpAny _ _ (eval (PySem.Expr.ListComp _ _ _ _) _) _ _ _)); walk1)
  k_dflt (refine ListComp_T (F₀ := by k_asm) (by with_unfolding_all rfl) (by decide) (by rfl) (by decide) (by rfl) ?_)
  repeat' ((with_reducible show wpAny _ _ _ _ _ _); walk1)
  refine ⟨_, _, _, _, rfl, rfl, by k_asm, by k_asm, List.Mem.head _, Nat.le_of_ble_eq_true rfl, fun g9 => ?_⟩
  refine kcf_rest (n := 8) (ks := [1, 2, 4, 8, 16, 32, 64, 128]) (fun k => ((rowF P N k.toNat : Nat) : Int)) rfl (fun i v hi hv => ?_) ?turn ?fin
  · exact ints8 hi hv
  case turn =>
    intro k t I oI C oC D m₂ ys h tk E' hk hC hx F N off ne mk
    obtain ⟨kn, rfl, hkn⟩ : ∃ kn : Nat, k = kn ∧ kn < 256 := ⟨k.toNat, by simp at hk; omega, by simp at hk; omega⟩
    k_steps
    exact LCg.CompEnd.intro (by k_asm) (by k_asm) _ (fun p hp => hp) off (List.Mem.head _) ⟨rfl, _, rfl⟩
  case fin =>
    intro ys hys D h9 tk9 F9 N9 off9
    repeat' ((fail_if_success (with_reducible show wpAny _ _ (call (Value.builtin "_functools.reduce") _) _ _ _)); walk1)
    rename Fr _ _ _ _ => F0
    rename News _ _ _ _ => N0
    k_dflt (refine' reduce_tab (rowF P N) ?hh F0 N0 ?hm ?hvs ?hi ?turn ?done)
    case hh => rfl
    case hm => k_mem
    case hvs => exact hys
    case hi => k_mem
    case turn =>
      intro rows qa vr n2 x t nw h tk hlen hI hqa hsub F N
      have hfm := hsub _ (List.Mem.tail _ (List.Mem.tail _ (List.Mem.tail _ (List.Mem.head _))))
      have hcm := hsub (c', oc) (by simp only [List.mem_cons]; right; right; right; right; right; right; right; exact List.mem_append_right _ hm)
      have hrec := codeRec_news N hcm hd hv
      refine wpAny_call ?_
      k_dflt (refine' lamC_code ?k1 ?k2 ?k3 ?k4 ?k5 ?kA ?kF ?kK ?k6 ?k7 ?k8 ?k9 ?kB ?kD ?_ ?c2 ?c3 ?c4; (case kA => exact rfl); (case kF => exact rfl); (case kK => first | exact rfl | assumption); (case k1 => k_asm); (case k2 => k_asm); (case k3 => k_asm); (case k4 => k_asm); (case k5 => k_asm); (case k6 => exact hfm); (case k7 => exact hrec); (case k8 => k_room); (case k9 => exact rfl); (case kB => exact rfl); (case kD => decide +kernel); (case c2 => exact rfl); (case c3 => exact rfl); (case c4 => exact rfl); k_whole; intro g' L' h' tk' cells' FG' F' N' Y' B' X' T' l1; (try k_lt l1); k_cells Y'; (try simp only [List.cons_append, List.nil_append] at N'); (try dsimp only))
      k_steps
      have hvl : vr.length ≤ 128 := by have := hI.length; rw [List.length_map] at this; omega
      refine LCg.CompSrc.ledger (by rfl) (by k_asm) (by k_asm) (List.Mem.tail _ hqa) (by rw [List.size_toArray, PySem.sizeLine_eq]; omega) (fun g9 => kcf_list (fun k => ((x ^^^ k.toNat : Nat) : Int)) hI ?turn2 ?fin2)
      case turn2 =>
        intro k t I oI C oC D m₂ ys h tk E' hk hC hx F N off ne mk
        obtain ⟨kn, hkn, rfl⟩ := List.mem_map.mp hk
        k_steps
        exact LCg.CompEnd.intro (by k_asm) (by k_asm) _ (fun p hp => hp) off (.inr ⟨_, List.Mem.tail _ hqa, rfl, _, rfl⟩) ⟨rfl, _, congrArg (Value.int · _) (xor_cast _ _)⟩
      case fin2 =>
        intro ys hys D h tk F N off
        have hyl := hys.length
        have hvl' := hI.length
        rw [List.length_map] at hyl hvl'
        have hlt : ∀ p ∈ nw, p.1 < h.objs.size := fun p hp => Heap.lt_size (N p (.tail _ (.tail _ hp))).1
        k_dflt (refine' add_lists_ints (vs := vr) (ws := ys) F N ⟨_, (N _ (.tail _ (.tail _ hqa))).1, rfl, _, rfl⟩ ⟨_, (N _ (.head _)).1, rfl, _, rfl⟩ hI hys (fun h' F' N' hI' => ?_) (by simp only [List.length_map, PySem.sizeLine_eq]; omega))
        (try dsimp only)
        walk1
        refine ⟨h.objs.size, vr ++ ys, _, _, rfl, rfl, by k_asm, ?n1, ?n2, hlt⟩
        case n1 =>
          rename News _ _ _ (_ :: (_, LCg.lst _) :: _) => Nk
          intro p hp
          rcases List.mem_cons.mp hp with rfl | hp
          · exact Nk _ (.head _)
          · exact Nk _ (.tail _ (.tail _ (.tail _ hp)))
        case n2 =>
          have e : ((fun k : Int => ((x ^^^ k.toNat : Nat) : Int)) ∘ fun y : Nat => (y : Int)) = ((fun y : Nat => (y : Int)) ∘ fun y => x ^^^ y) := by funext y; simp
          rw [List.map_map, e, ← List.map_map, ← List.map_append] at hI'
          exact hI'
    case done =>
      intro qa vr h tk hI N hlt F
      k_steps
      refine hret _ _ _ _ ⟨qa, vr, ps', add, rfl, hI, rfl, hTH, fun p hp => ?_, ?_, fun b hb => ⟨?_, hab2 b hb⟩, fun b hb p hp => ?_⟩ (by k_asm) (fun p hp => ?_)
      · refine hlt p ?_
        simp only [List.mem_cons, List.mem_append] at hp ⊢
        rcases hp with hp | hp <;> simp only [hp, or_true, true_or]
      · exact hlt (248, tabObj ps') (by simp only [List.mem_cons, true_or, or_true])
      · exact hlt b (by simp only [List.mem_cons, List.mem_append]; simp only [hb, or_true, true_or])
      · rcases List.mem_append.mp hp with hp | hp
        · exact hab1 b hb p (.tail _ (.tail _ hp))
        · exact hab3 b hb p hp
      · rename News _ _ _ _ => Nk
        rcases List.mem_cons.mp hp with rfl | hp
        · exact Nk _ (.head _)
        · exact Nk _ (.tail _ (.tail _ (.tail _ (.tail _ (.tail _ (.tail _ (.tail _ hp)))))))
end Mine
end
section
namespace Mine
theorem lt_two8 {k N : Nat} (hk : k < 256) (h : 8 ≤ N) : k < 2 ^ N := by
  rw [pow8 h]; exact Nat.lt_of_lt_of_le hk (Nat.le_mul_of_pos_right _ (Nat.two_pow_pos _))
theorem bitrev_ct' (w : World) (X N : Nat) (x n : Int) (t u : Tok) (news : List (Addr × Obj)) (e1 : x = (X : Int)) (e2 : n = (N : Int)) (hN64 : N ≤ 64) :
    Ct w 2 (.ref 232) [.int x t, .int n u] news (fun r news' => ∃ t', r = .int ((brL N X : Nat) : Int) t' ∧ news' = news) := by
  subst e1 e2; exact bitrev_ct w X N t u news hN64
theorem bytecrc_r_ct' (w : World) (C q N : Nat) (c p n : Int) (t u v : Tok) (news : List (Addr × Obj)) (e1 : c = (C : Int)) (e2 : p = (q : Int)) (e3 : n = (N : Int)) (hN0 : 8 ≤ N) (hN64 : N ≤ 64) (hC : C < 2 ^ N) (hq : q < 2 ^ N) :
    Ct w 2 (.ref 246) [.int c t, .int p v, .int n u] news (fun r news' => ∃ t', r = .int ((itn 8 (bfr q) C : Nat) : Int) t' ∧ news' = news) := by
  subst e1 e2 e3
  exact bytecrc_r_ct w C q N t u v news hN0 hN64 hC hq
end Mine
local macro_rules | `(tactic| walk_at "call ref") => `(tactic| (k_here; (with_reducible show wpAny _ _ (call (Value.ref 232) _) _ _ _); k_dflt (refine' Mine.Ct.use (Mine.bitrev_ct' _ _ _ _ _ _ _ _ ?e1 ?e2 ?h1) ?B ?F ?K ?N ?T ?cs ?dp ?un ?_; (case e1 => ktr_unf); (case e2 => ktr_unf); (case h1 => omega); (case B => k_asm); (case F => k_asm); (case K => k_asm); (case N => k_asm); (case T => k_asm); (case cs => rfl); (case dp => k_room); (case un => k_units)); (intro r9 n9 h9 tk9 hC F9 N9); obtain ⟨t9, hr9, hn9⟩ := hC; subst hr9 hn9; (try k_sweep)))
local macro_rules | `(tactic| walk_at "call ref") => `(tactic| (k_here; (with_reducible show wpAny _ _ (call (Value.ref 246) _) _ _ _); k_dflt (refine' Mine.Ct.use (Mine.bytecrc_r_ct' _ _ _ _ _ _ _ _ _ _ _ ?e1 ?e2 ?e3 ?h1 ?h2 ?h3 ?h4) ?B ?F ?K ?N ?T ?cs ?dp ?un ?_; (case e1 => ktr_unf); (case e2 => ktr_unf); (case e3 => ktr_unf); (case h1 => omega); (case h2 => omega); (case h3 => k_extra "h3"); (case h4 => k_extra "h4"); (case B => k_asm); (case F => k_asm); (case K => k_asm); (case N => k_asm); (case T => k_asm); (case cs => rfl); (case dp => k_room); (case un => k_units)); (intro r9 n9 h9 tk9 hC F9 N9); obtain ⟨t9, hr9, hn9⟩ := hC; subst hr9 hn9; (try k_sweep)))
namespace Mine
theorem mktabr_ct (w : World) (P N : Nat) (t u : Tok) (tab : Array Value) (front rest : List (Addr × Obj)) (hN0 : 8 ≤ N) (hN64 : N ≤ 64) (hfr : ∀ p ∈ front, p.1 ≠ 253) (hr : ∀ p ∈ rest, p.1 ≠ 253)
    (hH : TabHas tab [(⟨185, 19, 185, 67⟩, "_mkTable_r.<locals>.<lambda>")] rest) :
    Ct w 5 (.ref 256) [.int (P : Int) t, .int (N : Int) u] ((253, tabObj tab) :: (front ++ rest)) (fun r news' => ∃ tb vr t1 add, r = .ref tb ∧ IntsAre vr ((tabOf (rowR P N)).map (fun x : Nat => (x : Int))) ∧ news' = (tb, PySem.W.listOf vr.toArray 0) :: (253, tabObj t1) :: (front ++ (add ++ rest)) ∧
      TabHas t1 [(⟨185, 19, 185, 67⟩, "_mkTable_r.<locals>.<lambda>")] (add ++ rest) ∧ (∀ p ∈ front ++ rest, p.1 < tb) ∧ 253 < tb ∧ (∀ b ∈ add, b.1 < tb ∧ 253 < b.1) ∧ (∀ b ∈ add, ∀ p ∈ front ++ rest, p.1 < b.1)) := by
  unfold Ct
  k_fill
  intro p loose mean mg mb dp un gd cn cs a ccd cl outer A₀ base h₀ L m s Q E hB hF hK hN hT hcs hdp hun hret
  k_dflt (refine wpAny_call ?_)
  k_dflt k_enter
  k_with_none
  k_with "h3" => exact lt_two8 (by omega) (by omega)
  k_with "h4" => exact brL_lt _ _
  repeat' ((fail_if_success (with_reducible show wpAny _ _ (eval (PySem.Expr.Lambda _ _ _ _) _) _ _ _)); walk1)
  k_dflt (refine' kla_eval ?d0 ?_; (case d0 => exact rfl))
  refine mk_none ?_
  rename Fr _ _ _ _ => F1
  rename News _ _ _ _ => N1
  have N2 := news_swap2 N1
  k_dflt (refine' tail_any (front := _ :: _ :: front) (rest := rest) ?F ?N ?T ?C ?cd ?hf ?hr ?hH ?hq ?hone ?cl ?_; (case F => exact F1); (case N => exact N2); (case T => k_asm); (case C => exact Mine.codeHd_of (c := 255) (P := 253) (by k_in) (by k_is) rfl rfl rfl rfl rfl (by decide)); (case cd => exact rfl); (case hr => exact hr); (case hH => exact hH); (case hq => exact List.Mem.head _); (case cl => exact rfl); (case hf => (refine List.forall_mem_cons.mpr ⟨?_, List.forall_mem_cons.mpr ⟨?_, hfr⟩⟩ <;> k_ne)); (case hone => intro q hq _ _; rw [List.mem_singleton.mp hq]; exact rfl))
  intro f c' oc vs tt ctv doc ps' add h' tk F' N9 hm hd hv hTH hlf1 hlf2 hlf3 hlf4 hab1 hab2 hab3
  have N' := news_swap2b N9
  clear N9 N2 N1
  (try k_sweep)
  repeat' ((fail_if_success (with_reducible show wpAny _ _ (eval (PySem.Expr.ListComp _ _ _ _) _) _ _ _)); walk1)
  k_dflt (refine ListComp_T (F₀ := by k_asm) (by with_unfolding_all rfl) (by decide) (by rfl) (by decide) (by rfl) ?_)
  repeat' ((with_reducible show wpAny _ _ _ _ _ _); walk1)
  refine ⟨_, _, _, _, rfl, rfl, by k_asm, by k_asm, List.Mem.head _, Nat.le_of_ble_eq_true rfl, fun g9 => ?_⟩
  refine kcf_rest (n := 8) (ks := [1, 2, 4, 8, 16, 32, 64, 128]) (fun k => ((rowR P N k.toNat : Nat) : Int)) rfl (fun i v hi hv => ?_) ?turn ?fin
  · exact ints8 hi hv
  case turn =>
    intro k t I oI C oC D m₂ ys h tk E' hk hC hx F N off ne mk
    obtain ⟨kn, rfl, hkn⟩ : ∃ kn : Nat, k = kn ∧ kn < 256 := ⟨k.toNat, by simp at hk; omega, by simp at hk; omega⟩
    k_steps
    exact LCg.CompEnd.intro (by k_asm) (by k_asm) _ (fun p hp => hp) off (List.Mem.head _) ⟨rfl, _, rfl⟩
  case fin =>
    intro ys hys D h9 tk9 F9 N9 off9
    repeat' ((fail_if_success (with_reducible show wpAny _ _ (call (Value.builtin "_functools.reduce") _) _ _ _)); walk1)
    rename Fr _ _ _ _ => F0
    rename News _ _ _ _ => N0
    k_dflt (refine' reduce_tab (rowR P N) ?hh F0 N0 ?hm ?hvs ?hi ?turn ?done)
    case hh => rfl
    case hm => k_mem
    case hvs => exact hys
    case hi => k_mem
    case turn =>
      intro rows qa vr n2 x t nw h tk hlen hI hqa hsub F N
      have hfm := hsub _ (List.Mem.tail _ (List.Mem.tail _ (List.Mem.tail _ (List.Mem.head _))))
      have hcm := hsub (c', oc) (by simp only [List.mem_cons]; right; right; right; right; right; right; right; exact List.mem_append_right _ hm)
      have hrec := codeRec_news N hcm hd hv
      refine wpAny_call ?_
      k_dflt (refine' lamC_code ?k1 ?k2 ?k3 ?k4 ?k5 ?kA ?kF ?kK ?k6 ?k7 ?k8 ?k9 ?kB ?kD ?_ ?c2 ?c3 ?c4; (case kA => exact rfl); (case kF => exact rfl); (case kK => first | exact rfl | assumption); (case k1 => k_asm); (case k2 => k_asm); (case k3 => k_asm); (case k4 => k_asm); (case k5 => k_asm); (case k6 => exact hfm); (case k7 => exact hrec); (case k8 => k_room); (case k9 => exact rfl); (case kB => exact rfl); (case kD => decide +kernel); (case c2 => exact rfl); (case c3 => exact rfl); (case c4 => exact rfl); k_whole; intro g' L' h' tk' cells' FG' F' N' Y' B' X' T' l1; (try k_lt l1); k_cells Y'; (try simp only [List.cons_append, List.nil_append] at N'); (try dsimp only))
      k_steps
      have hvl : vr.length ≤ 128 := by have := hI.length; rw [List.length_map] at this; omega
      refine LCg.CompSrc.ledger (by rfl) (by k_asm) (by k_asm) (List.Mem.tail _ hqa) (by rw [List.size_toArray, PySem.sizeLine_eq]; omega) (fun g9 => kcf_list (fun k => ((x ^^^ k.toNat : Nat) : Int)) hI ?turn2 ?fin2)
      case turn2 =>
        intro k t I oI C oC D m₂ ys h tk E' hk hC hx F N off ne mk
        obtain ⟨kn, hkn, rfl⟩ := List.mem_map.mp hk
        k_steps
        exact LCg.CompEnd.intro (by k_asm) (by k_asm) _ (fun p hp => hp) off (.inr ⟨_, List.Mem.tail _ hqa, rfl, _, rfl⟩) ⟨rfl, _, congrArg (Value.int · _) (xor_cast _ _)⟩
      case fin2 =>
        intro ys hys D h tk F N off
        have hyl := hys.length
        have hvl' := hI.length
        rw [List.length_map] at hyl hvl'
        have hlt : ∀ p ∈ nw, p.1 < h.objs.size := fun p hp => Heap.lt_size (N p (.tail _ (.tail _ hp))).1
        k_dflt (refine' add_lists_ints (vs := vr) (ws := ys) F N ⟨_, (N _ (.tail _ (.tail _ hqa))).1, rfl, _, rfl⟩ ⟨_, (N _ (.head _)).1, rfl, _, rfl⟩ hI hys (fun h' F' N' hI' => ?_) (by simp only [List.length_map, PySem.sizeLine_eq]; omega))
        (try dsimp only)
        walk1
        refine ⟨h.objs.size, vr ++ ys, _, _, rfl, rfl, by k_asm, ?n1, ?n2, hlt⟩
        case n1 =>
          rename News _ _ _ (_ :: (_, LCg.lst _) :: _) => Nk
          intro p hp
          rcases List.mem_cons.mp hp with rfl | hp
          · exact Nk _ (.head _)
          · exact Nk _ (.tail _ (.tail _ (.tail _ hp)))
        case n2 =>
          have e : ((fun k : Int => ((x ^^^ k.toNat : Nat) : Int)) ∘ fun y : Nat => (y : Int)) = ((fun y : Nat => (y : Int)) ∘ fun y => x ^^^ y) := by funext y; simp
          rw [List.map_map, e, ← List.map_map, ← List.map_append] at hI'
          exact hI'
    case done =>
      intro qa vr h tk hI N hlt F
      k_steps
      refine hret _ _ _ _ ⟨qa, vr, ps', add, rfl, hI, rfl, hTH, fun p hp => ?_, ?_, fun b hb => ⟨?_, hab2 b hb⟩, fun b hb p hp => ?_⟩ (by k_asm) (fun p hp => ?_)
      · refine hlt p ?_
        simp only [List.mem_cons, List.mem_append] at hp ⊢
        rcases hp with hp | hp <;> simp only [hp, or_true, true_or]
      · exact hlt (253, tabObj ps') (by simp only [List.mem_cons, true_or, or_true])
      · exact hlt b (by simp only [List.mem_cons, List.mem_append]; simp only [hb, or_true, true_or])
      · rcases List.mem_append.mp hp with hp | hp
        · exact hab1 b hb p (.tail _ (.tail _ hp))
        · exact hab3 b hb p hp
      · rename News _ _ _ _ => Nk
        rcases List.mem_cons.mp hp with rfl | hp
        · exact Nk _ (.head _)
        · exact Nk _ (.tail _ (.tail _ (.tail _ (.tail _ (.tail _ (.tail _ (.tail _ hp)))))))
end Mine
end
section
namespace Mine
def SizeOk (N : Nat) : Prop := N = 8 ∨ N = 16 ∨ N = 24 ∨ N = 32 ∨ N = 64
theorem unrEndW1 {h₀ h' : Heap} {L I : Addr} {oI : Obj} {s₁ : Shared} {tk : Nat} {m' : Str → Option Value} {news' : List (Addr × Obj)} {rest : (Str → Option Value) → List (Addr × Obj) → Prop} (F : Fr h₀ L h' m') (N : News h₀ L h' ((I, oI) :: news')) (off : ∀ p ∈ news', p.1 ≠ I) (r : rest m' news') :
    UnrEndW h₀ L s₁ [(I, oI)] rest { s₁ with heap := h', toks := tk } := ⟨h', tk, m', news', rfl, F, N, fun p hp q hq => by rw [List.mem_singleton.mp hq]; exact off p hp, r⟩
theorem size_range {P N : Nat} (hN : SizeOk N) (h1 : 2 ^ N ≤ P) (h2 : P < 2 ^ (N + 1)) : (N = 8 ∧ 256 ≤ P ∧ P < 512) ∨ (N = 16 ∧ 65536 ≤ P ∧ P < 131072) ∨ (N = 24 ∧ 16777216 ≤ P ∧ P < 33554432) ∨ (N = 32 ∧ 4294967296 ≤ P ∧ P < 8589934592) ∨ (N = 64 ∧ 18446744073709551616 ≤ P ∧ P < 36893488147419103232) := by
  rcases hN with rfl | rfl | rfl | rfl | rfl <;> simp only [Nat.reducePow, Nat.reduceAdd] at h1 h2 <;> omega
end Mine
local macro_rules | `(tactic| walk_at "UnrEndW") => `(tactic| first | (exfalso; (simp only [show (1 * 2 ^ Int.toNat 8 : Int) = 256 from rfl, show (1 * 2 ^ Int.toNat 16 : Int) = 65536 from rfl, show (1 * 2 ^ Int.toNat 24 : Int) = 16777216 from rfl, show (1 * 2 ^ Int.toNat 32 : Int) = 4294967296 from rfl, show (1 * 2 ^ Int.toNat 64 : Int) = 18446744073709551616 from rfl] at *); omega) | ((rename Fr _ _ _ _ => uF'); (rename News _ _ _ _ => uN'); (with_unfolding_all refine Mine.unrEndW1 uF' uN' ?uo ⟨?us, ?_⟩); (case uo => k_all); (case us => k_subL)))
namespace Mine
theorem verifyPoly_ct (w : World) (P N : Nat) (t : Tok) (news : List (Addr × Obj)) (hN : SizeOk N) (h1 : 2 ^ N ≤ P) (h2 : P < 2 ^ (N + 1)) :
    Ct w 2 (.ref 225) [.int (P : Int) t] news (fun r news' => ∃ t', r = .int (N : Int) t' ∧ news' = news) := by
  unfold Ct
  k_fill
  intro p loose mean mg mb dp un gd cn cs a ccd cl outer A₀ base h₀ L m s Q E hB hF hK hN' hT hcs hdp hun hret
  have hR := size_range hN h1 h2
  clear h1 h2 hN
  k_dflt (refine wpAny_call ?_)
  k_dflt k_enter
  k_with_none
  k_with "pyIter ref" => (rename Fr _ _ _ _ => lF'); (rename News _ _ _ _ => lN'); (with_unfolding_all refine iter_tupTurns (vs := [_, _, _, _, _]) (by rfl) lF' lN' (List.Mem.head _) (by rfl) (by rfl) ?_); clear lF'; intro i' l1; (try k_lt l1)
  k_steps
  all_goals simp only [show (1 * 2 ^ Int.toNat 8 : Int) = 256 from rfl, show (1 * 2 ^ Int.toNat 16 : Int) = 65536 from rfl, show (1 * 2 ^ Int.toNat 24 : Int) = 16777216 from rfl, show (1 * 2 ^ Int.toNat 32 : Int) = 4294967296 from rfl, show (1 * 2 ^ Int.toNat 64 : Int) = 18446744073709551616 from rfl] at *
  all_goals (rename News _ _ _ _ => kN; exact hret _ _ _ _ ⟨_, congrArg (Value.int · _) (by omega), rfl⟩ (by assumption) (fun p hp => kN p (.tail _ (.tail _ hp))))
end Mine
local macro_rules | `(tactic| walk_at "call ref") => `(tactic| (k_here; (with_reducible show wpAny _ _ (call (Value.ref 225) _) _ _ _); k_dflt (refine' Mine.Ct.use (Mine.verifyPoly_ct _ _ _ _ _ ?h1 ?h2 ?h3) ?B ?F ?K ?N ?T ?cs ?dp ?un ?_; (case h1 => assumption); (case h2 => assumption); (case h3 => assumption); (case B => k_asm); (case F => k_asm); (case K => k_asm); (case N => k_asm); (case T => k_asm); (case cs => rfl); (case dp => k_room); (case un => k_units)); (intro r9 n9 h9 tk9 hC F9 N9); obtain ⟨t9, hr9, hn9⟩ := hC; subst hr9 hn9; (try k_sweep)))
namespace Mine
theorem verifyParams_ct (w : World) (P N : Nat) (c i x : Int) (t u v : Tok) (news : List (Addr × Obj)) (e : c = (P : Int)) (hN : SizeOk N) (h1 : 2 ^ N ≤ P) (h2 : P < 2 ^ (N + 1)) :
    Ct w 4 (.ref 269) [.int c t, .int i u, .int x v] news (fun r news' => ∃ q t1 t2 t3, r = .ref q ∧ news' = (q, seqObj "tuple" #[.int (N : Int) t1, .int ((mskN i N : Nat) : Int) t2, .int ((mskN x N : Nat) : Int) t3] 0) :: news ∧ ∀ p ∈ news, p.1 < q) := by
  subst e
  have hN64 : (N : Int) ≤ 64 := by rcases hN with rfl | rfl | rfl | rfl | rfl <;> decide
  unfold Ct
  k_fill
  intro p loose mean mg mb dp un gd cn cs a ccd cl outer A₀ base h₀ L m s Q E hB hF hK hN' hT hcs hdp hun hret
  k_dflt (refine wpAny_call ?_)
  k_dflt k_enter
  k_with_none
  k_steps
  rename News _ _ _ _ => kN
  simp only [mskN_and] at kN
  exact hret _ _ _ _ ⟨_, _, _, _, rfl, rfl, by first | assumption | exact lt_of_all (by assumption)⟩ (by assumption) kN
end Mine
end
section
local macro_rules | `(tactic| walk_at "getMethod bytes") => `(tactic| (k_here; (with_reducible refine Mine.getMethod_join ?_)))
local macro_rules | `(tactic| walk_at "call builtin:bytes.join") => `(tactic| (k_here; k_dflt (refine' Mine.call_join_one (n := 0) ?N ?m ?_; (case N => k_asm); (case m => k_mem))))
namespace Mine
theorem view_ct (w : World) (b : Array UInt8) (t : Tok) (news : List (Addr × Obj)) (hb : b.size ≤ 1000) :
    Ct w 2 (.ref 67) [.bytes b t] news (fun r news' => ∃ q d h t' t'', r = .ref q ∧ news' = (q, instObj 56 d) :: (d, dictOf [⟨h, .str "octets" t'', .bytes b t'⟩] 1) :: news ∧ d < q ∧ ∀ p ∈ news, p.1 < d) := by
  unfold Ct
  k_fill
  intro p loose mean mg mb dp un gd cn cs a ccd cl outer A₀ base h₀ L m s Q E hB hF hK hN hT hcs hdp hun hret
  k_dflt (refine wpAny_call ?_)
  k_dflt k_enter
  k_with_none
  k_steps
  rename News _ _ _ _ => kN
  exact hret _ _ _ _ ⟨_, _, _, _, _, rfl, rfl, by assumption, by first | assumption | exact lt_of_all (by assumption)⟩ (by assumption) (fun p hp => kN p (.tail _ hp))
end Mine
local macro_rules | `(tactic| walk_at "call ref") => `(tactic| (k_here; (with_reducible show wpAny _ _ (call (Value.ref 67) _) _ _ _); k_dflt (refine' Mine.Ct.use (Mine.view_ct _ _ _ _ ?h1) ?B ?F ?K ?N ?T ?cs ?dp ?un ?_; (case h1 => assumption); (case B => k_asm); (case F => k_asm); (case K => k_asm); (case N => k_asm); (case T => k_asm); (case cs => rfl); (case dp => k_room); (case un => k_units)); (intro r9 n9 h9 tk9 hC F9 N9); obtain ⟨q9, d9, hs9, t9, tt9, hr9, hn9, l9, l8⟩ := hC; subst hr9 hn9; (try k_lt l8); (try k_sweep)))
local macro_rules | `(tactic| walk_at "subscriptTail") => `(tactic| (k_here; (with_reducible show wpAny _ _ (subscriptTail _ _ (Value.ref _) (Value.int _ _)) _ _ _); k_dflt (refine' Mine.tab_item ?N ?m ?I ?b ?l ?_; (case N => k_asm); (case m => k_extra "tabm"); (case I => assumption); (case b => k_extra "idx"); (case l => k_extra "len")); intro t9))
namespace Mine
theorem crc8_ct (w : World) (b : Array UInt8) (c0 : Nat) (tb : Addr) (vr : List Value) (nn : Nat) (tab : List Nat) (t u : Tok) (news : List (Addr × Obj)) (hb : b.size ≤ 1000) (hc : c0 < 2 ^ 8) (hT : TabLt tab 8) (hm : (tb, PySem.W.listOf vr.toArray nn) ∈ news) (hI : IntsAre vr (tab.map (fun x : Nat => (x : Int)))) :
    Ct w 4 (.ref 74) [.bytes b t, .int (c0 : Int) u, .ref tb] news (fun r news' => ∃ t', r = .int (((octs b).foldl (stepF 8 tab) c0 : Nat) : Int) t' ∧ news' = news) := by
  unfold Ct
  k_fill
  intro p loose mean mg mb dp un gd cn cs a ccd cl outer A₀ base h₀ L m s Q E hB hF hK hN hT' hcs hdp hun hret
  k_dflt (refine wpAny_call ?_)
  k_dflt k_enter
  k_with_none
  k_with "pyIter bytes" => k_state (fun pre crc => CrcInv (stepF 8 tab) 8 c0 pre crc) "crc"
  k_with "state" => first | exact CrcInv.start' rfl hc | exact CrcInv.turn8 stepF_8 hT (by assumption) (by assumption) (by assumption)
  k_with "tabm" => exact List.mem_append_left _ (.tail _ (.tail _ hm))
  k_with "idx" => (rw [len256 hT]; exact idx_crc _ (by assumption) (by assumption) (by assumption))
  k_with "len" => (rw [len256 hT]; decide)
  k_with "shl" => exact CrcInv.shl (by assumption) (by decide) (by decide)
  k_steps
  rename News _ _ _ _ => kN
  exact hret _ _ _ _ ⟨_, congrArg (Value.int · _) (CrcInv.fin' (by assumption)), rfl⟩ (by assumption) (fun p hp => kN p (.tail _ (.tail _ hp)))
theorem crc8r_ct (w : World) (b : Array UInt8) (c0 : Nat) (tb : Addr) (vr : List Value) (nn : Nat) (tab : List Nat) (t u : Tok) (news : List (Addr × Obj)) (hb : b.size ≤ 1000) (hc : c0 < 2 ^ 8) (hT : TabLt tab 8) (hm : (tb, PySem.W.listOf vr.toArray nn) ∈ news) (hI : IntsAre vr (tab.map (fun x : Nat => (x : Int)))) :
    Ct w 4 (.ref 81) [.bytes b t, .int (c0 : Int) u, .ref tb] news (fun r news' => ∃ t', r = .int (((octs b).foldl (stepR tab) c0 : Nat) : Int) t' ∧ news' = news) := by
  unfold Ct
  k_fill
  intro p loose mean mg mb dp un gd cn cs a ccd cl outer A₀ base h₀ L m s Q E hB hF hK hN hT' hcs hdp hun hret
  k_dflt (refine wpAny_call ?_)
  k_dflt k_enter
  k_with_none
  k_with "pyIter bytes" => k_state (fun pre crc => CrcInv (stepR tab) 8 c0 pre crc) "crc"
  k_with "state" => first | exact CrcInv.start' rfl hc | exact CrcInv.turn8 stepR_8 hT (by assumption) (by assumption) (by assumption)
  k_with "tabm" => exact List.mem_append_left _ (.tail _ (.tail _ hm))
  k_with "idx" => (rw [len256 hT]; exact idx_crc _ (by assumption) (by assumption) (by assumption))
  k_with "len" => (rw [len256 hT]; decide)
  k_with "shl" => exact CrcInv.shl (by assumption) (by decide) (by decide)
  k_steps
  rename News _ _ _ _ => kN
  exact hret _ _ _ _ ⟨_, congrArg (Value.int · _) (CrcInv.fin' (by assumption)), rfl⟩ (by assumption) (fun p hp => kN p (.tail _ (.tail _ hp)))
theorem crc16_ct (w : World) (b : Array UInt8) (c0 : Nat) (tb : Addr) (vr : List Value) (nn : Nat) (tab : List Nat) (t u : Tok) (news : List (Addr × Obj)) (hb : b.size ≤ 1000) (hc : c0 < 2 ^ 16) (hT : TabLt tab 16) (hm : (tb, PySem.W.listOf vr.toArray nn) ∈ news) (hI : IntsAre vr (tab.map (fun x : Nat => (x : Int)))) :
    Ct w 4 (.ref 88) [.bytes b t, .int (c0 : Int) u, .ref tb] news (fun r news' => ∃ t', r = .int (((octs b).foldl (stepF 16 tab) c0 : Nat) : Int) t' ∧ news' = news) := by
  unfold Ct
  k_fill
  intro p loose mean mg mb dp un gd cn cs a ccd cl outer A₀ base h₀ L m s Q E hB hF hK hN hT' hcs hdp hun hret
  k_dflt (refine wpAny_call ?_)
  k_dflt k_enter
  k_with_none
  k_with "pyIter bytes" => k_state (fun pre crc => CrcInv (stepF 16 tab) 16 c0 pre crc) "crc"
  k_with "state" => first | exact CrcInv.start' rfl hc | exact CrcInv.turnF hT (by assumption) (by decide) (by assumption) (by assumption) _ _ rfl rfl
  k_with "tabm" => exact List.mem_append_left _ (.tail _ (.tail _ hm))
  k_with "idx" => (rw [len256 hT]; exact idx_and _ _ (by assumption) (by assumption))
  k_with "len" => (rw [len256 hT]; decide)
  k_with "shl" => exact CrcInv.shl (by assumption) (by decide) (by decide)
  k_steps
  rename News _ _ _ _ => kN
  exact hret _ _ _ _ ⟨_, congrArg (Value.int · _) (CrcInv.fin' (by assumption)), rfl⟩ (by assumption) (fun p hp => kN p (.tail _ (.tail _ hp)))
theorem crc16r_ct (w : World) (b : Array UInt8) (c0 : Nat) (tb : Addr) (vr : List Value) (nn : Nat) (tab : List Nat) (t u : Tok) (news : List (Addr × Obj)) (hb : b.size ≤ 1000) (hc : c0 < 2 ^ 16) (hT : TabLt tab 16) (hm : (tb, PySem.W.listOf vr.toArray nn) ∈ news) (hI : IntsAre vr (tab.map (fun x : Nat => (x : Int)))) :
    Ct w 4 (.ref 95) [.bytes b t, .int (c0 : Int) u, .ref tb] news (fun r news' => ∃ t', r = .int (((octs b).foldl (stepR tab) c0 : Nat) : Int) t' ∧ news' = news) := by
  unfold Ct
  k_fill
  intro p loose mean mg mb dp un gd cn cs a ccd cl outer A₀ base h₀ L m s Q E hB hF hK hN hT' hcs hdp hun hret
  k_dflt (refine wpAny_call ?_)
  k_dflt k_enter
  k_with_none
  k_with "pyIter bytes" => k_state (fun pre crc => CrcInv (stepR tab) 16 c0 pre crc) "crc"
  k_with "state" => first | exact CrcInv.start' rfl hc | exact CrcInv.turnR hT (by assumption) (by assumption) (by assumption)
  k_with "tabm" => exact List.mem_append_left _ (.tail _ (.tail _ hm))
  k_with "idx" => (rw [len256 hT]; exact idx_and _ _ (by assumption) (by assumption))
  k_with "len" => (rw [len256 hT]; decide)
  k_with "shl" => exact CrcInv.shl (by assumption) (by decide) (by decide)
  k_steps
  rename News _ _ _ _ => kN
  exact hret _ _ _ _ ⟨_, congrArg (Value.int · _) (CrcInv.fin' (by assumption)), rfl⟩ (by assumption) (fun p hp => kN p (.tail _ (.tail _ hp)))
theorem crc24_ct (w : World) (b : Array UInt8) (c0 : Nat) (tb : Addr) (vr : List Value) (nn : Nat) (tab : List Nat) (t u : Tok) (news : List (Addr × Obj)) (hb : b.size ≤ 1000) (hc : c0 < 2 ^ 24) (hT : TabLt tab 24) (hm : (tb, PySem.W.listOf vr.toArray nn) ∈ news) (hI : IntsAre vr (tab.map (fun x : Nat => (x : Int)))) :
    Ct w 4 (.ref 102) [.bytes b t, .int (c0 : Int) u, .ref tb] news (fun r news' => ∃ t', r = .int (((octs b).foldl (stepF 24 tab) c0 : Nat) : Int) t' ∧ news' = news) := by
  unfold Ct
  k_fill
  intro p loose mean mg mb dp un gd cn cs a ccd cl outer A₀ base h₀ L m s Q E hB hF hK hN hT' hcs hdp hun hret
  k_dflt (refine wpAny_call ?_)
  k_dflt k_enter
  k_with_none
  k_with "pyIter bytes" => k_state (fun pre crc => CrcInv (stepF 24 tab) 24 c0 pre crc) "crc"
  k_with "state" => first | exact CrcInv.start' rfl hc | exact CrcInv.turnF hT (by assumption) (by decide) (by assumption) (by assumption) _ _ rfl rfl
  k_with "tabm" => exact List.mem_append_left _ (.tail _ (.tail _ hm))
  k_with "idx" => (rw [len256 hT]; exact idx_and _ _ (by assumption) (by assumption))
  k_with "len" => (rw [len256 hT]; decide)
  k_with "shl" => exact CrcInv.shl (by assumption) (by decide) (by decide)
  k_steps
  rename News _ _ _ _ => kN
  exact hret _ _ _ _ ⟨_, congrArg (Value.int · _) (CrcInv.fin' (by assumption)), rfl⟩ (by assumption) (fun p hp => kN p (.tail _ (.tail _ hp)))
theorem crc24r_ct (w : World) (b : Array UInt8) (c0 : Nat) (tb : Addr) (vr : List Value) (nn : Nat) (tab : List Nat) (t u : Tok) (news : List (Addr × Obj)) (hb : b.size ≤ 1000) (hc : c0 < 2 ^ 24) (hT : TabLt tab 24) (hm : (tb, PySem.W.listOf vr.toArray nn) ∈ news) (hI : IntsAre vr (tab.map (fun x : Nat => (x : Int)))) :
    Ct w 4 (.ref 109) [.bytes b t, .int (c0 : Int) u, .ref tb] news (fun r news' => ∃ t', r = .int (((octs b).foldl (stepR tab) c0 : Nat) : Int) t' ∧ news' = news) := by
  unfold Ct
  k_fill
  intro p loose mean mg mb dp un gd cn cs a ccd cl outer A₀ base h₀ L m s Q E hB hF hK hN hT' hcs hdp hun hret
  k_dflt (refine wpAny_call ?_)
  k_dflt k_enter
  k_with_none
  k_with "pyIter bytes" => k_state (fun pre crc => CrcInv (stepR tab) 24 c0 pre crc) "crc"
  k_with "state" => first | exact CrcInv.start' rfl hc | exact CrcInv.turnR hT (by assumption) (by assumption) (by assumption)
  k_with "tabm" => exact List.mem_append_left _ (.tail _ (.tail _ hm))
  k_with "idx" => (rw [len256 hT]; exact idx_and _ _ (by assumption) (by assumption))
  k_with "len" => (rw [len256 hT]; decide)
  k_with "shl" => exact CrcInv.shl (by assumption) (by decide) (by decide)
  k_steps
  rename News _ _ _ _ => kN
  exact hret _ _ _ _ ⟨_, congrArg (Value.int · _) (CrcInv.fin' (by assumption)), rfl⟩ (by assumption) (fun p hp => kN p (.tail _ (.tail _ hp)))
theorem crc32_ct (w : World) (b : Array UInt8) (c0 : Nat) (tb : Addr) (vr : List Value) (nn : Nat) (tab : List Nat) (t u : Tok) (news : List (Addr × Obj)) (hb : b.size ≤ 1000) (hc : c0 < 2 ^ 32) (hT : TabLt tab 32) (hm : (tb, PySem.W.listOf vr.toArray nn) ∈ news) (hI : IntsAre vr (tab.map (fun x : Nat => (x : Int)))) :
    Ct w 4 (.ref 116) [.bytes b t, .int (c0 : Int) u, .ref tb] news (fun r news' => ∃ t', r = .int (((octs b).foldl (stepF 32 tab) c0 : Nat) : Int) t' ∧ news' = news) := by
  unfold Ct
  k_fill
  intro p loose mean mg mb dp un gd cn cs a ccd cl outer A₀ base h₀ L m s Q E hB hF hK hN hT' hcs hdp hun hret
  k_dflt (refine wpAny_call ?_)
  k_dflt k_enter
  k_with_none
  k_with "pyIter bytes" => k_state (fun pre crc => CrcInv (stepF 32 tab) 32 c0 pre crc) "crc"
  k_with "state" => first | exact CrcInv.start' rfl hc | exact CrcInv.turnF hT (by assumption) (by decide) (by assumption) (by assumption) _ _ rfl rfl
  k_with "tabm" => exact List.mem_append_left _ (.tail _ (.tail _ hm))
  k_with "idx" => (rw [len256 hT]; exact idx_and _ _ (by assumption) (by assumption))
  k_with "len" => (rw [len256 hT]; decide)
  k_with "shl" => exact CrcInv.shl (by assumption) (by decide) (by decide)
  k_steps
  rename News _ _ _ _ => kN
  exact hret _ _ _ _ ⟨_, congrArg (Value.int · _) (CrcInv.fin' (by assumption)), rfl⟩ (by assumption) (fun p hp => kN p (.tail _ (.tail _ hp)))
theorem crc32r_ct (w : World) (b : Array UInt8) (c0 : Nat) (tb : Addr) (vr : List Value) (nn : Nat) (tab : List Nat) (t u : Tok) (news : List (Addr × Obj)) (hb : b.size ≤ 1000) (hc : c0 < 2 ^ 32) (hT : TabLt tab 32) (hm : (tb, PySem.W.listOf vr.toArray nn) ∈ news) (hI : IntsAre vr (tab.map (fun x : Nat => (x : Int)))) :
    Ct w 4 (.ref 123) [.bytes b t, .int (c0 : Int) u, .ref tb] news (fun r news' => ∃ t', r = .int (((octs b).foldl (stepR tab) c0 : Nat) : Int) t' ∧ news' = news) := by
  unfold Ct
  k_fill
  intro p loose mean mg mb dp un gd cn cs a ccd cl outer A₀ base h₀ L m s Q E hB hF hK hN hT' hcs hdp hun hret
  k_dflt (refine wpAny_call ?_)
  k_dflt k_enter
  k_with_none
  k_with "pyIter bytes" => k_state (fun pre crc => CrcInv (stepR tab) 32 c0 pre crc) "crc"
  k_with "state" => first | exact CrcInv.start' rfl hc | exact CrcInv.turnR hT (by assumption) (by assumption) (by assumption)
  k_with "tabm" => exact List.mem_append_left _ (.tail _ (.tail _ hm))
  k_with "idx" => (rw [len256 hT]; exact idx_and _ _ (by assumption) (by assumption))
  k_with "len" => (rw [len256 hT]; decide)
  k_with "shl" => exact CrcInv.shl (by assumption) (by decide) (by decide)
  k_steps
  rename News _ _ _ _ => kN
  exact hret _ _ _ _ ⟨_, congrArg (Value.int · _) (CrcInv.fin' (by assumption)), rfl⟩ (by assumption) (fun p hp => kN p (.tail _ (.tail _ hp)))
theorem crc64_ct (w : World) (b : Array UInt8) (c0 : Nat) (tb : Addr) (vr : List Value) (nn : Nat) (tab : List Nat) (t u : Tok) (news : List (Addr × Obj)) (hb : b.size ≤ 1000) (hc : c0 < 2 ^ 64) (hT : TabLt tab 64) (hm : (tb, PySem.W.listOf vr.toArray nn) ∈ news) (hI : IntsAre vr (tab.map (fun x : Nat => (x : Int)))) :
    Ct w 4 (.ref 130) [.bytes b t, .int (c0 : Int) u, .ref tb] news (fun r news' => ∃ t', r = .int (((octs b).foldl (stepF 64 tab) c0 : Nat) : Int) t' ∧ news' = news) := by
  unfold Ct
  k_fill
  intro p loose mean mg mb dp un gd cn cs a ccd cl outer A₀ base h₀ L m s Q E hB hF hK hN hT' hcs hdp hun hret
  k_dflt (refine wpAny_call ?_)
  k_dflt k_enter
  k_with_none
  k_with "pyIter bytes" => k_state (fun pre crc => CrcInv (stepF 64 tab) 64 c0 pre crc) "crc"
  k_with "state" => first | exact CrcInv.start' rfl hc | exact CrcInv.turnF hT (by assumption) (by decide) (by assumption) (by assumption) _ _ rfl rfl
  k_with "tabm" => exact List.mem_append_left _ (.tail _ (.tail _ hm))
  k_with "idx" => (rw [len256 hT]; exact idx_and _ _ (by assumption) (by assumption))
  k_with "len" => (rw [len256 hT]; decide)
  k_with "shl" => exact CrcInv.shl (by assumption) (by decide) (by decide)
  k_steps
  rename News _ _ _ _ => kN
  exact hret _ _ _ _ ⟨_, congrArg (Value.int · _) (CrcInv.fin' (by assumption)), rfl⟩ (by assumption) (fun p hp => kN p (.tail _ (.tail _ hp)))
theorem crc64r_ct (w : World) (b : Array UInt8) (c0 : Nat) (tb : Addr) (vr : List Value) (nn : Nat) (tab : List Nat) (t u : Tok) (news : List (Addr × Obj)) (hb : b.size ≤ 1000) (hc : c0 < 2 ^ 64) (hT : TabLt tab 64) (hm : (tb, PySem.W.listOf vr.toArray nn) ∈ news) (hI : IntsAre vr (tab.map (fun x : Nat => (x : Int)))) :
    Ct w 4 (.ref 137) [.bytes b t, .int (c0 : Int) u, .ref tb] news (fun r news' => ∃ t', r = .int (((octs b).foldl (stepR tab) c0 : Nat) : Int) t' ∧ news' = news) := by
  unfold Ct
  k_fill
  intro p loose mean mg mb dp un gd cn cs a ccd cl outer A₀ base h₀ L m s Q E hB hF hK hN hT' hcs hdp hun hret
  k_dflt (refine wpAny_call ?_)
  k_dflt k_enter
  k_with_none
  k_with "pyIter bytes" => k_state (fun pre crc => CrcInv (stepR tab) 64 c0 pre crc) "crc"
  k_with "state" => first | exact CrcInv.start' rfl hc | exact CrcInv.turnR hT (by assumption) (by assumption) (by assumption)
  k_with "tabm" => exact List.mem_append_left _ (.tail _ (.tail _ hm))
  k_with "idx" => (rw [len256 hT]; exact idx_and _ _ (by assumption) (by assumption))
  k_with "len" => (rw [len256 hT]; decide)
  k_with "shl" => exact CrcInv.shl (by assumption) (by decide) (by decide)
  k_steps
  rename News _ _ _ _ => kN
  exact hret _ _ _ _ ⟨_, congrArg (Value.int · _) (CrcInv.fin' (by assumption)), rfl⟩ (by assumption) (fun p hp => kN p (.tail _ (.tail _ hp)))
end Mine
end
section
namespace Mine
def smA (N : Nat) : Addr := if N = 8 then 258 else if N = 16 then 259 else if N = 24 then 260 else if N = 32 then 261 else 262
def funA (N : Nat) (r : Bool) : Addr := if N = 8 then (if r then 81 else 74) else if N = 16 then (if r then 95 else 88) else if N = 24 then (if r then 109 else 102) else if N = 32 then (if r then 123 else 116) else (if r then 137 else 130)
theorem intItem_K {prog : Program} {w : World} {A : Around} {E : Value → Shared → Prop} {s : Shared} {K : Frag} {h₀ : Heap} {L a : Addr} {m : Str → Option Value} {es : Array DictEntry} {n : Nat} {value slice : Expr} {i : Int} {t : Tok} {v : Value} {Q : Value → Shared → Prop}
    (F : Fr h₀ L s.heap m) (X₀ : K.In h₀) (hl : K.lookup a = some ⟨.type "dict", none, .dict es n, #[]⟩) (hk : ∀ e ∈ es, ∃ k, (PySem.intKind prog w).is k e.key = true ∧ e.hash = (PySem.intKind prog w).hash k) (e : findBy Value.isInt es i = some v) (h : Q v { s with toks := s.toks + 1 })
    (hs : subscripted slice false (.ref a) (.int i t) = operate [.ref a, .int i t] (getItem (.ref a) (.int i t))) :
    wpAny (model prog w) A (subscriptTail value slice (.ref a) (.int i t)) Q E s := by
  have hm : s.heap.MapOf (PySem.intKind prog w) a (fun k => findBy Value.isInt es k) := ⟨_, es, n, (X₀.keeps F.keep) _ _ hl, ⟨rfl, rfl, rfl⟩, rfl, hk, fun _ => rfl⟩
  exact PyProof.Rows.tail_any hm.typeIs slot_dict_getitem.lookup (wpAny_getItem_of (intKind_is prog w i t) hm e h) hs
theorem sm_item {w : World} {A : Around} {E : Value → Shared → Prop} {s : Shared} {h₀ : Heap} {L : Addr} {m : Str → Option Value} {value slice : Expr} {N : Nat} {t : Tok} {Q : Value → Shared → Prop}
    (F : Fr h₀ L s.heap m) (X₀ : (Mine.hd.heap_39 w.params).In h₀) (hN : SizeOk N) (h : Q (.ref (smA N)) { s with toks := s.toks + 1 })
    (hs : subscripted slice false (.ref 257) (.int (N : Int) t) = operate [.ref 257, .int (N : Int) t] (getItem (.ref 257) (.int (N : Int) t)) := by with_unfolding_all rfl) :
    wpAny (model PySem.Challenge.rw_aa5007_03.row.prog w) A (subscriptTail value slice (.ref 257) (.int (N : Int) t)) Q E s := by
  revert F X₀ h hs
  k_fill
  intro F X₀ h hs
  refine intItem_K F X₀ (by k_is) (fun e he => ?_) ?_ h hs
  · simp only [List.mem_toArray, List.mem_cons, List.not_mem_nil, or_false] at he
    rcases he with rfl | rfl | rfl | rfl | rfl <;> exact ⟨_, intKind_is _ _ _ _, by (unfold PySem.intKind; dsimp only; decide +kernel)⟩
  · rcases hN with rfl | rfl | rfl | rfl | rfl <;> decide +kernel
theorem sm_list {w : World} {A : Around} {E : Value → Shared → Prop} {s : Shared} {h₀ : Heap} {L : Addr} {m : Str → Option Value} {value slice : Expr} {N : Nat} {t : Tok} {r : Bool} {Q : Value → Shared → Prop} {k : Int}
    (F : Fr h₀ L s.heap m) (X₀ : (Mine.hd.heap_39 w.params).In h₀) (hN : SizeOk N) (hk : k = if r then 1 else 0) (h : Q (.ref (funA N r)) s)
    (hs : subscripted slice false (.ref (smA N)) (.int k t) = operate [.ref (smA N), .int k t] (getItem (.ref (smA N)) (.int k t)) := by with_unfolding_all rfl) :
    wpAny (model PySem.Challenge.rw_aa5007_03.row.prog w) A (subscriptTail value slice (.ref (smA N)) (.int k t)) Q E s := by
  revert F X₀ h hs
  k_fill
  intro F X₀ h hs
  rcases hN with rfl | rfl | rfl | rfl | rfl <;> cases r <;> subst hk
  all_goals exact topList_K (a := smA _) F X₀ (by k_is) (by decide) (by decide) (by rfl) h hs
theorem keep_fun {w : World} {N : Nat} {r : Bool} (hN : SizeOk N) : keepIn (Mine.hd.heap_39 w.params) (.ref (funA N r)) = true := by
  rcases hN with rfl | rfl | rfl | rfl | rfl <;> cases r <;> k_is
def stepAny (N : Nat) (r : Bool) (tab : List Nat) : Nat → Nat → Nat := if r then stepR tab else stepF N tab
theorem crcAny_ct (w : World) (N : Nat) (r : Bool) (b : Array UInt8) (c0 : Nat) (c : Int) (tb : Addr) (vr : List Value) (nn : Nat) (tab : List Nat) (t u : Tok) (news : List (Addr × Obj)) (hN : SizeOk N) (hb : b.size ≤ 1000) (e : c = (c0 : Int)) (hc : c0 < 2 ^ N) (hT : TabLt tab N) (hm : (tb, PySem.W.listOf vr.toArray nn) ∈ news) (hI : IntsAre vr (tab.map (fun x : Nat => (x : Int)))) :
    Ct w 4 (.ref (funA N r)) [.bytes b t, .int c u, .ref tb] news (fun r' news' => ∃ t', r' = .int (((octs b).foldl (stepAny N r tab) c0 : Nat) : Int) t' ∧ news' = news) := by
  subst e
  rcases hN with rfl | rfl | rfl | rfl | rfl <;> cases r
  · exact crc8_ct w b c0 tb vr nn tab t u news hb hc hT hm hI
  · exact crc8r_ct w b c0 tb vr nn tab t u news hb hc hT hm hI
  · exact crc16_ct w b c0 tb vr nn tab t u news hb hc hT hm hI
  · exact crc16r_ct w b c0 tb vr nn tab t u news hb hc hT hm hI
  · exact crc24_ct w b c0 tb vr nn tab t u news hb hc hT hm hI
  · exact crc24r_ct w b c0 tb vr nn tab t u news hb hc hT hm hI
  · exact crc32_ct w b c0 tb vr nn tab t u news hb hc hT hm hI
  · exact crc32r_ct w b c0 tb vr nn tab t u news hb hc hT hm hI
  · exact crc64_ct w b c0 tb vr nn tab t u news hb hc hT hm hI
  · exact crc64r_ct w b c0 tb vr nn tab t u news hb hc hT hm hI
/-- what a function that mkCrcFun made tells -/
def crcVal (N : Nat) (r : Bool) (tab : List Nat) (x c : Nat) (b : Array UInt8) : Nat := x ^^^ (octs b).foldl (stepAny N r tab) (x ^^^ c)
def CrcFn (w : World) (f : Addr) (F : Nat → Array UInt8 → Nat) (N i : Nat) (S : List (Addr × Obj)) : Prop :=
  (∀ (news : List (Addr × Obj)) (b : Array UInt8) (t : Tok), (∀ p ∈ S, p ∈ news) → b.size ≤ 1000 → Ct w 6 (.ref f) [.bytes b t] news (fun r n => ∃ t', r = .int ((F i b : Nat) : Int) t' ∧ n = news)) ∧
  (∀ (news : List (Addr × Obj)) (b : Array UInt8) (t : Tok) (c : Nat) (u : Tok), (∀ p ∈ S, p ∈ news) → b.size ≤ 1000 → c < 2 ^ N → Ct w 6 (.ref f) [.bytes b t, .int (c : Int) u] news (fun r n => ∃ t', r = .int ((F c b : Nat) : Int) t' ∧ n = news)) ∧
  ∃ oc od fd sl, (f, (⟨oc, od, .func fd, sl⟩ : Obj)) ∈ S
theorem CrcFn.mono {w : World} {f : Addr} {F : Nat → Array UInt8 → Nat} {N i : Nat} {S S' : List (Addr × Obj)} (h : CrcFn w f F N i S) (hs : ∀ p ∈ S, p ∈ S') : CrcFn w f F N i S' :=
  ⟨fun news b t hn => h.1 news b t fun p hp => hn p (hs p hp), fun news b t c u hn => h.2.1 news b t c u fun p hp => hn p (hs p hp), by obtain ⟨a, b, c, d, e⟩ := h.2.2; exact ⟨a, b, c, d, hs _ e⟩⟩
end Mine
end
section
namespace Mine
section
variable {h₀ h : Heap} {L : Addr} {a1 a2 a3 c t b : Addr × Obj} {front rest : List (Addr × Obj)}
theorem perm1 (N : News h₀ L h (c :: a1 :: a2 :: a3 :: (front ++ rest))) : News h₀ L h (a1 :: ((c :: a2 :: a3 :: front) ++ rest)) := fun p hp => N p (by
  simp only [List.mem_cons, List.mem_append] at hp ⊢
  rcases hp with hp | (hp | hp | hp | hp) | hp <;> simp only [hp, true_or, or_true])
theorem perm1b (N : News h₀ L h (t :: a1 :: ((c :: a2 :: a3 :: front) ++ rest))) : News h₀ L h (t :: c :: a1 :: a2 :: a3 :: (front ++ rest)) := fun p hp => N p (by
  simp only [List.mem_cons, List.mem_append] at hp ⊢
  rcases hp with hp | hp | hp | hp | hp | hp | hp <;> simp only [hp, true_or, or_true])
theorem perm2 (N : News h₀ L h (c :: a1 :: a2 :: a3 :: (front ++ rest))) : News h₀ L h (a2 :: ((c :: a1 :: a3 :: front) ++ rest)) := fun p hp => N p (by
  simp only [List.mem_cons, List.mem_append] at hp ⊢
  rcases hp with hp | (hp | hp | hp | hp) | hp <;> simp only [hp, true_or, or_true])
theorem perm2b (N : News h₀ L h (t :: a2 :: ((c :: a1 :: a3 :: front) ++ rest))) : News h₀ L h (t :: c :: a1 :: a2 :: a3 :: (front ++ rest)) := fun p hp => N p (by
  simp only [List.mem_cons, List.mem_append] at hp ⊢
  rcases hp with hp | hp | hp | hp | hp | hp | hp <;> simp only [hp, true_or, or_true])
theorem perm3b {f : Addr × Obj} (N : News h₀ L h (f :: ((b :: t :: c :: a1 :: a2 :: front) ++ a3 :: rest))) : News h₀ L h (f :: b :: t :: c :: a1 :: a2 :: a3 :: (front ++ rest)) := fun p hp => N p (by
  simp only [List.mem_cons, List.mem_append] at hp ⊢
  rcases hp with hp | hp | hp | hp | hp | hp | hp | hp | hp <;> simp only [hp, true_or, or_true])
theorem perm3 (N : News h₀ L h (b :: t :: c :: a1 :: a2 :: a3 :: (front ++ rest))) : News h₀ L h ((b :: t :: c :: a1 :: a2 :: front) ++ a3 :: rest) := fun p hp => N p (by
  simp only [List.mem_cons, List.mem_append] at hp ⊢
  rcases hp with (hp | hp | hp | hp | hp | hp) | hp | hp <;> simp only [hp, true_or, or_true])
end
theorem TabLt_of {f : Nat → Nat} {n : Nat} (hf : ∀ k ∈ [1, 2, 4, 8, 16, 32, 64, 128], f k < 2 ^ n) : TabLt (tabOf f) n := by
  refine ⟨tabRows_len f 8 (by decide), ?_⟩
  have : ∀ (l : List Nat) (acc : List Nat), (∀ k ∈ l, f k < 2 ^ n) → (∀ x ∈ acc, x < 2 ^ n) → ∀ x ∈ l.foldl (fun rows k => rows ++ rows.map (f k ^^^ ·)) acc, x < 2 ^ n := by
    intro l
    induction l with
    | nil => intro acc _ h; exact h
    | cons k r ih =>
      intro acc h1 h2
      refine ih _ (fun k hk => h1 k (.tail _ hk)) fun x hx => ?_
      rcases List.mem_append.mp hx with hx | hx
      · exact h2 x hx
      · obtain ⟨y, hy, rfl⟩ := List.mem_map.mp hx
        exact xor_lt (h1 k (.head _)) (h2 y hy)
  exact this _ [0] hf (fun x hx => by rw [List.mem_singleton.mp hx]; exact Nat.two_pow_pos n)
theorem TabLt_F {P N : Nat} : TabLt (tabOf (rowF P N)) N := TabLt_of fun k _ => Nat.mod_lt _ (Nat.two_pow_pos N)
theorem TabLt_R {P N : Nat} (h : 8 ≤ N) : TabLt (tabOf (rowR P N)) N := TabLt_of fun k hk => by
  have hk8 : k < 2 ^ N := by
    have : k < 2 ^ 8 := by simp at hk; omega
    exact Nat.lt_of_lt_of_le this (Nat.pow_le_pow_right (by decide) h)
  exact itn_bfr_lt (brL_lt _ _) hk8 8
/-- the table of a polynomial -/
def tabPN (r : Bool) (P N : Nat) : List Nat := if r then tabOf (rowR P N) else tabOf (rowF P N)
theorem TabLt_PN {r : Bool} {P N : Nat} (h : 8 ≤ N) : TabLt (tabPN r P N) N := by cases r; exact TabLt_F; exact TabLt_R h
theorem News.dup {h₀ h : Heap} {L : Addr} {l news : List (Addr × Obj)} (N : News h₀ L h news) (hs : ∀ p ∈ l, p ∈ news) : News h₀ L h (l ++ news) := fun p hp => N p (by
  rcases List.mem_append.mp hp with hp | hp
  · exact hs p hp
  · exact hp)
def LamA : Pos × Str := (⟨180, 19, 180, 67⟩, "_mkTable.<locals>.<lambda>")
def LamB : Pos × Str := (⟨185, 19, 185, 67⟩, "_mkTable_r.<locals>.<lambda>")
def FunA : Pos × Str := (⟨204, 8, 205, 40⟩, "_mkCrcFun.<locals>.crcfun")
def FunB : Pos × Str := (⟨208, 8, 209, 58⟩, "_mkCrcFun.<locals>.crcfun")
end Mine
local macro_rules | `(tactic| walk_at "subscriptTail") => `(tactic| (k_here; (with_reducible show wpAny _ _ (subscriptTail _ _ (Value.ref 257) (Value.int _ _)) _ _ _); k_dflt (refine' Mine.sm_item ?F ?X ?n ?_; (case F => k_asm); (case X => k_asm); (case n => assumption))))
local macro_rules | `(tactic| walk_at "subscriptTail") => `(tactic| (k_here; (with_reducible show wpAny _ _ (subscriptTail _ _ (Value.ref (Mine.smA _)) (Value.int _ _)) _ _ _); k_dflt (first | (refine' Mine.sm_list (r := false) ?F ?X ?n ?k ?_; (case k => rfl); (case F => k_asm); (case X => k_asm); (case n => assumption)) | (refine' Mine.sm_list (r := true) ?F ?X ?n ?k ?_; (case k => rfl); (case F => k_asm); (case X => k_asm); (case n => assumption)))))
namespace Mine
theorem ltN {a b : Nat} (h : a < b) : (show Addr from a) < b := h
section
variable {f dt tb cell : Addr × Obj} {add2 add rest : List (Addr × Obj)}
theorem sub1 (p : Addr × Obj) (hp : p ∈ rest) : p ∈ (f :: dt :: tb :: cell :: (add2 ++ add)) ++ rest := List.mem_append_right _ hp
theorem sub2 (p : Addr × Obj) (hp : p ∈ add ++ rest) : p ∈ (f :: dt :: tb :: cell :: (add2 ++ add)) ++ rest := by
  rcases List.mem_append.mp hp with hp | hp
  · exact List.mem_append_left _ (.tail _ (.tail _ (.tail _ (.tail _ (List.mem_append_right _ hp)))))
  · exact List.mem_append_right _ hp
theorem sub3 (p : Addr × Obj) (hp : p ∈ add2 ++ (add ++ rest)) : p ∈ (f :: dt :: tb :: cell :: (add2 ++ add)) ++ rest := by
  rcases List.mem_append.mp hp with hp | hp
  · exact List.mem_append_left _ (.tail _ (.tail _ (.tail _ (.tail _ (List.mem_append_left _ hp)))))
  · exact sub2 p hp
theorem memC {p : Addr × Obj} (hp : p ∈ add2 ++ (add ++ rest)) : p ∈ (f :: dt :: tb :: cell :: (add2 ++ add)) ++ rest := sub3 p hp
theorem all4 {P : Addr × Obj → Prop} (h1 : P f) (h2 : P dt) (h3 : P tb) (h4 : P cell) (h5 : ∀ b ∈ add2, P b) (h6 : ∀ b ∈ add, P b) : ∀ b ∈ f :: dt :: tb :: cell :: (add2 ++ add), P b :=
  List.forall_mem_cons.mpr ⟨h1, List.forall_mem_cons.mpr ⟨h2, List.forall_mem_cons.mpr ⟨h3, List.forall_mem_cons.mpr ⟨h4, fun b hb => (List.mem_append.mp hb).elim (h5 b) (h6 b)⟩⟩⟩⟩
end
theorem permF {h₀ h : Heap} {L : Addr} {q f dt tb cell a1 a2 a3 : Addr × Obj} {front add2 add rest : List (Addr × Obj)} (N : News h₀ L h (q :: f :: dt :: tb :: cell :: a1 :: a2 :: a3 :: (front ++ (add2 ++ (add ++ rest))))) : News h₀ L h (q :: a1 :: a2 :: a3 :: (front ++ ((f :: dt :: tb :: cell :: (add2 ++ add)) ++ rest))) := fun p hp => N p (by
  simp only [List.mem_cons, List.mem_append, List.cons_append] at hp ⊢
  rcases hp with hp | hp | hp | hp | hp | hp | hp | hp | hp | (hp | hp) | hp <;> simp only [hp, true_or, or_true])
end Mine
local macro_rules | `(tactic| ktr_unf) => `(tactic| (with_reducible refine' Mine.cx_xor ?cxa ?cxb; (case cxa => ktr_unf); (case cxb => ktr_unf)))
local macro_rules | `(tactic| walk_at "callWith ref") => `(tactic| (k_here; (with_reducible show wpAny _ _ (callWith _ (Value.ref (Mine.funA _ _)) _ _ _) _ _ _); k_dflt (refine' callWith_K ?X (Mine.keep_fun ?hN) ?_; (case X => k_asm); (case hN => assumption))))
local macro_rules | `(tactic| walk_at "call ref") => `(tactic| (k_here; (with_reducible show wpAny _ _ (call (Value.ref (Mine.funA _ _)) _) _ _ _); k_dflt (refine' Mine.Ct.use (Mine.crcAny_ct _ _ _ _ _ _ _ _ _ _ _ _ _ ?hN ?hb ?he ?hc ?hT ?hm ?hI) ?B ?F ?K ?N ?T ?cs ?dp ?un ?_; (case N => k_asm); (case hN => assumption); (case hb => assumption); (case hI => assumption); (case hm => k_mem); (case hT => assumption); (case he => ktr_unf); (case hc => first | assumption | exact Mine.xor_lt (by assumption) (by assumption)); (case B => k_asm); (case F => k_asm); (case K => k_asm); (case T => k_asm); (case cs => rfl); (case dp => k_room); (case un => k_units)); (intro r9 n9 h9 tk9 hC F9 N9); obtain ⟨t9, hr9, hn9⟩ := hC; subst hr9 hn9; (try k_sweep)))
namespace Mine
def MkPost (w : World) (P N i x : Nat) (rev : Bool) (front rest : List (Addr × Obj)) (r : Value) (news' : List (Addr × Obj)) : Prop :=
  ∃ q f tb own t1' t2' t3', r = .ref q ∧ news' = (q, seqObj "tuple" #[.ref f, .ref tb] 0) :: (248, tabObj t1') :: (253, tabObj t2') :: (271, tabObj t3') :: (front ++ (own ++ rest)) ∧
    TabHas t1' [LamA] (own ++ rest) ∧ TabHas t2' [LamB] (own ++ rest) ∧ TabHas t3' [FunA, FunB] (own ++ rest) ∧ (∀ b ∈ own, 271 < b.1) ∧ (∀ b ∈ own, ∀ p ∈ front, p.1 < b.1) ∧ (∀ b ∈ own, b.1 < q) ∧ (∀ p ∈ front, p.1 < q) ∧ (∀ p ∈ rest, p.1 < q) ∧ 271 < q ∧
    CrcFn w f (crcVal N rev (tabPN rev P N) x) N i (own ++ rest)
theorem mkfun_ct (w : World) (P N : Nat) (i x : Nat) (rev : Bool) (t u v y : Tok) (t1 t2 t3 : Array Value) (front rest : List (Addr × Obj)) (hN : SizeOk N) (hi : i < 2 ^ N) (hx : x < 2 ^ N)
    (hf1 : ∀ p ∈ front, p.1 ≠ 248) (hf2 : ∀ p ∈ front, p.1 ≠ 253) (hf3 : ∀ p ∈ front, p.1 ≠ 271) (hr : ∀ p ∈ rest, 271 < p.1)
    (h1 : TabHas t1 [LamA] rest) (h2 : TabHas t2 [LamB] rest) (h3 : TabHas t3 [FunA, FunB] rest) :
    Ct w 8 (.ref 276) [.int (P : Int) t, .int (N : Int) u, .int (i : Int) v, .bool rev, .int (x : Int) y] ((248, tabObj t1) :: (253, tabObj t2) :: (271, tabObj t3) :: (front ++ rest)) (MkPost w P N i x rev front rest) := by
  have hN8 : 8 ≤ N := by rcases hN with rfl | rfl | rfl | rfl | rfl <;> decide
  have hN64 : N ≤ 64 := by rcases hN with rfl | rfl | rfl | rfl | rfl <;> decide
  have hr1 : ∀ p ∈ rest, p.1 ≠ 248 := fun p hp => by have := hr p hp; exact Nat.ne_of_gt (Nat.lt_trans (by decide) this)
  have hr2 : ∀ p ∈ rest, p.1 ≠ 253 := fun p hp => by have := hr p hp; exact Nat.ne_of_gt (Nat.lt_trans (by decide) this)
  have hr3 : ∀ {add : List (Addr × Obj)}, (∀ b ∈ add, 271 < b.1) → ∀ q ∈ add ++ rest, q.1 ≠ 271 := fun ha q hq => by
    rcases List.mem_append.mp hq with hq | hq
    · exact Nat.ne_of_gt (ha q hq)
    · exact Nat.ne_of_gt (hr q hq)
  unfold Ct
  k_fill
  intro p loose mean mg mb dp un gd cn cs a ccd cl outer A₀ base h₀ L m s Q E hB hF hK hN' hT hcs hdp hun hret
  k_dflt (refine wpAny_call ?_)
  k_dflt k_enter
  k_with_none
  rename Frag.In _ _ => X9
  rename _ = Data.cell _ => d1
  replace d1 : _ = Data.cell (some (.int (x : Int) y)) := d1
  have hCd := Mine.codeHd_of (c := 275) (P := 271) X9 (by k_is) rfl rfl rfl rfl rfl (by decide)
  cases rev
  case false =>
    skip
    have hTL : TabLt (tabPN false P N) N := TabLt_PN hN8
    repeat' ((fail_if_success (with_reducible show wpAny _ _ (call (Value.ref 251) _) _ _ _)); walk1)
    rename News _ _ _ _ => N1
    have N2 := perm1 N1
    k_dflt (refine' Mine.Ct.use (Mine.mktab_ct _ _ _ _ _ _ _ _ ?h1 ?h2 ?h3 ?h4 ?h5) ?B ?F ?K ?N ?T ?cs ?dp ?un ?_; (case N => exact N2); (case h1 => exact hN8); (case h2 => exact hN64); (case h3 => (refine List.forall_mem_cons.mpr ⟨?_, List.forall_mem_cons.mpr ⟨?_, List.forall_mem_cons.mpr ⟨?_, hf1⟩⟩⟩ <;> k_ne)); (case h4 => exact hr1); (case h5 => exact h1); (case B => k_asm); (case F => k_asm); (case K => k_asm); (case T => k_asm); (case cs => rfl); (case dp => k_room); (case un => k_units))
    intro r9 n9 h9 tk9 hC F9 N9
    obtain ⟨tb, vr, t1', add, hr9, hI, hn9, hTH, la1, la2, la3, la4⟩ := hC
    subst hr9 hn9
    have hI' : IntsAre vr ((tabPN false P N).map (fun x : Nat => (x : Int))) := hI
    have N' := perm1b N9
    clear N9 N2 N1
    (try k_sweep)
    have ha271 : ∀ b ∈ add, 271 < b.1 := fun b hb => la4 b hb _ (List.mem_append_left _ (.tail _ (.tail _ (.head _))))
    have htb : 271 < tb := la1 _ (List.mem_append_left _ (.tail _ (.tail _ (.head _))))
    repeat' ((fail_if_success (with_reducible show wpAny _ _ (makeTail _ _ _ _ _ _ _ _ _ _ _) _ _ _)); walk1)
    all_goals
      rename News _ _ _ _ => N1
      have N2 := perm3 N1
      k_dflt (refine' tail_any (front := _ :: _ :: _ :: _ :: _ :: front) (rest := add ++ rest) ?F ?N ?T ?C ?cd ?hf ?hr ?hH ?hq ?hone ?cl ?_; (case F => k_asm); (case N => exact N2); (case T => k_asm); (case C => exact hCd); (case cd => exact rfl); (case hr => exact hr3 ha271); (case hH => exact h3.mono (fun p hp => List.mem_append_right _ hp)); (case hq => first | exact List.Mem.head _ | exact List.Mem.tail _ (List.Mem.head _)); (case cl => exact rfl); (case hf => (refine List.forall_mem_cons.mpr ⟨?_, List.forall_mem_cons.mpr ⟨?_, List.forall_mem_cons.mpr ⟨?_, List.forall_mem_cons.mpr ⟨?_, List.forall_mem_cons.mpr ⟨?_, hf3⟩⟩⟩⟩⟩ <;> first | k_ne | decide | exact Nat.ne_of_gt (by assumption))); (case hone => intro q hq _ _; rcases List.mem_cons.mp hq with rfl | hq; exact rfl; rw [List.mem_singleton.mp hq]; exact rfl))
      intro f c' oc vs tt ctv doc t3' add2 h' tk F' N9 hm hd hv hTH3 hlf1 hlf2 hlf3 hlf4 hab1 hab2 hab3
      have N' := perm3b N9
      clear N9 N2 N1
      (try k_sweep)
      k_steps
      rename News _ _ _ _ => kN
      rename Fr _ _ _ _ => kF
      (repeat (with_reducible rename _ ∧ _ => hh9; obtain ⟨_, _⟩ := hh9))
      refine hret _ _ _ _ ?_ kF (permF kN)
      refine ⟨_, f, tb, _ :: _ :: _ :: _ :: (add2 ++ add), _, _, _, rfl, rfl, ?_, ?_, ?_, ?_, ?_, ?_, ?_, ?_, ?_, ?_⟩
      · exact hTH.mono sub2
      · exact h2.mono sub1
      · exact hTH3.mono sub3
      · refine all4 ?_ ?_ ?_ ?_ (fun b hb => hab2 b hb) (fun b hb => ha271 b hb) <;> (first | assumption | (refine Mine.ltN ?_; (try dsimp only); omega) | omega)
      · refine all4 (P := fun b => ∀ p ∈ front, p.1 < b.1) (fun p hp => hlf1 p (.tail _ (.tail _ (.tail _ (.tail _ (.tail _ hp)))))) (fun p hp => lt_of_all (by assumption) p (List.mem_append_left _ hp)) (fun p hp => la1 p (List.mem_append_left _ (.tail _ (.tail _ (.tail _ hp))))) (fun p hp => Nat.lt_succ_of_lt (lt_of_all (by assumption) p (List.mem_append_left _ hp))) (fun b hb p hp => hab1 b hb p (.tail _ (.tail _ (.tail _ (.tail _ (.tail _ hp)))))) (fun b hb p hp => la4 b hb p (List.mem_append_left _ (.tail _ (.tail _ (.tail _ hp)))))
      · refine all4 ?_ ?_ ?_ ?_ (fun b hb => lt_of_all (by assumption) b (List.mem_append_right _ (List.mem_append_left _ hb))) (fun b hb => lt_of_all (by assumption) b (List.mem_append_right _ (List.mem_append_right _ (List.mem_append_left _ hb)))) <;> (first | assumption | (refine Mine.ltN ?_; (try dsimp only); omega) | omega)
      · exact fun p hp => lt_of_all (by assumption) p (List.mem_append_left _ hp)
      · exact fun p hp => lt_of_all (by assumption) p (List.mem_append_right _ (List.mem_append_right _ (List.mem_append_right _ hp)))
      · (first | assumption | (refine Mine.ltN ?_; (try dsimp only); omega) | omega)
      · clear hlf1 hlf2 hlf3 hlf4 hab1 hab2 hab3 la1 la2 la3 la4 hTH hTH3 hret hun hdp hcs kN kF h1 h2 h3
        (repeat (rename Fr _ _ _ _ => zz; clear zz))
        (repeat (rename News _ _ _ _ => zz; clear zz))
        (repeat (rename Below _ _ _ _ => zz; clear zz))
        (repeat (rename Top _ _ _ _ _ _ => zz; clear zz))
        (repeat (rename Frag.In _ _ => zz; clear zz))
        (repeat (rename AllLt _ _ => zz; clear zz))
        refine ⟨fun news b t hn hb => ?_, fun news b t c u hn hb hc => ?_, _, _, _, _, .head _⟩
        · skip
          unfold Ct
          k_fill
          intro p loose mean mg mb dp un gd cn cs a ccd cl outer A₀ base h₀ L m s Q E hB hF hK hN' hT hcs hdp hun hret
          have hcm := hn (c', oc) (memC hm)
          have N2 := News.dup (l := [_, _, _, _, _]) hN' (List.forall_mem_cons.mpr ⟨hn _ (.head _), List.forall_mem_cons.mpr ⟨hn _ (.tail _ (.head _)), List.forall_mem_cons.mpr ⟨hn _ (.tail _ (.tail _ (.head _))), List.forall_mem_cons.mpr ⟨hn _ (.tail _ (.tail _ (.tail _ (.head _)))), List.forall_mem_cons.mpr ⟨hcm, List.forall_mem_nil _⟩⟩⟩⟩⟩)
          clear hN' hcm hm hn
          simp only [List.cons_append, List.nil_append] at N2
          k_dflt (refine wpAny_call ?_)
          (refine' kdv_code (binds := [("data", .bytes b t), ("crc", .int (i : Int) v), ("table", .ref tb), ("fun", .ref (funA N false))]) ?k1 ?k2 ?k3 ?k4 ?k5 ?kA ?kF ?kK ?k6 ?k7 ?k8 ?k9 ?kB ?_ ?c2 ?c3 ?c4 ?c5; (case kA => exact rfl); (case kF => exact rfl); (case kK => assumption); (case k1 => k_asm); (case k2 => k_asm); (case k3 => k_asm); (case k4 => k_asm); (case k5 => k_asm); (case k6 => k_mem); (case k7 => exact codeRec_news (by k_asm) (by k_mem) (by assumption) (by assumption)); (case k8 => k_room); (case k9 => kdv_bind); (case c5 => decide); (case kB => exact locs rfl); (case c2 => exact rfl); (case c3 => exact rfl); (case c4 => exact rfl); k_whole; intro g' L' h' FG' F' N' B' X' T'; (try dsimp only); (try k_lift B'); (try k_fold))
          repeat' ((fail_if_success (with_reducible show wpAny _ _ (callWith _ _ _ _ _) _ _ _)); walk1)
          k_steps
          rename News _ _ _ _ => kN
          refine hret _ _ _ _ ⟨_, congrArg (Value.int · _) ?_, rfl⟩ (by assumption) (fun p hp => kN p (.tail _ (.tail _ (.tail _ (.tail _ (.tail _ hp))))))
          first | (rw [xor_cast]; rfl) | (have hx0 : x = 0 := by omega
                                          simp [crcVal, hx0])
        · skip
          unfold Ct
          k_fill
          intro p loose mean mg mb dp un gd cn cs a ccd cl outer A₀ base h₀ L m s Q E hB hF hK hN' hT hcs hdp hun hret
          have hcm := hn (c', oc) (memC hm)
          have N2 := News.dup (l := [_, _, _, _, _]) hN' (List.forall_mem_cons.mpr ⟨hn _ (.head _), List.forall_mem_cons.mpr ⟨hn _ (.tail _ (.head _)), List.forall_mem_cons.mpr ⟨hn _ (.tail _ (.tail _ (.head _))), List.forall_mem_cons.mpr ⟨hn _ (.tail _ (.tail _ (.tail _ (.head _)))), List.forall_mem_cons.mpr ⟨hcm, List.forall_mem_nil _⟩⟩⟩⟩⟩)
          clear hN' hcm hm hn
          simp only [List.cons_append, List.nil_append] at N2
          k_dflt (refine wpAny_call ?_)
          (refine' kdv_code (binds := [("data", .bytes b t), ("crc", .int (c : Int) u), ("table", .ref tb), ("fun", .ref (funA N false))]) ?k1 ?k2 ?k3 ?k4 ?k5 ?kA ?kF ?kK ?k6 ?k7 ?k8 ?k9 ?kB ?_ ?c2 ?c3 ?c4 ?c5; (case kA => exact rfl); (case kF => exact rfl); (case kK => assumption); (case k1 => k_asm); (case k2 => k_asm); (case k3 => k_asm); (case k4 => k_asm); (case k5 => k_asm); (case k6 => k_mem); (case k7 => exact codeRec_news (by k_asm) (by k_mem) (by assumption) (by assumption)); (case k8 => k_room); (case k9 => kdv_bind); (case c5 => decide); (case kB => exact locs rfl); (case c2 => exact rfl); (case c3 => exact rfl); (case c4 => exact rfl); k_whole; intro g' L' h' FG' F' N' B' X' T'; (try dsimp only); (try k_lift B'); (try k_fold))
          repeat' ((fail_if_success (with_reducible show wpAny _ _ (callWith _ _ _ _ _) _ _ _)); walk1)
          k_steps
          rename News _ _ _ _ => kN
          refine hret _ _ _ _ ⟨_, congrArg (Value.int · _) ?_, rfl⟩ (by assumption) (fun p hp => kN p (.tail _ (.tail _ (.tail _ (.tail _ (.tail _ hp))))))
          first | (rw [xor_cast]; rfl) | (have hx0 : x = 0 := by omega
                                          simp [crcVal, hx0])

  case true =>
    skip
    have hTL : TabLt (tabPN true P N) N := TabLt_PN hN8
    repeat' ((fail_if_success (with_reducible show wpAny _ _ (call (Value.ref 256) _) _ _ _)); walk1)
    rename News _ _ _ _ => N1
    have N2 := perm2 N1
    k_dflt (refine' Mine.Ct.use (Mine.mktabr_ct _ _ _ _ _ _ _ _ ?h1 ?h2 ?h3 ?h4 ?h5) ?B ?F ?K ?N ?T ?cs ?dp ?un ?_; (case N => exact N2); (case h1 => exact hN8); (case h2 => exact hN64); (case h3 => (refine List.forall_mem_cons.mpr ⟨?_, List.forall_mem_cons.mpr ⟨?_, List.forall_mem_cons.mpr ⟨?_, hf2⟩⟩⟩ <;> k_ne)); (case h4 => exact hr2); (case h5 => exact h2); (case B => k_asm); (case F => k_asm); (case K => k_asm); (case T => k_asm); (case cs => rfl); (case dp => k_room); (case un => k_units))
    intro r9 n9 h9 tk9 hC F9 N9
    obtain ⟨tb, vr, t1', add, hr9, hI, hn9, hTH, la1, la2, la3, la4⟩ := hC
    subst hr9 hn9
    have hI' : IntsAre vr ((tabPN true P N).map (fun x : Nat => (x : Int))) := hI
    have N' := perm2b N9
    clear N9 N2 N1
    (try k_sweep)
    have ha271 : ∀ b ∈ add, 271 < b.1 := fun b hb => la4 b hb _ (List.mem_append_left _ (.tail _ (.tail _ (.head _))))
    have htb : 271 < tb := la1 _ (List.mem_append_left _ (.tail _ (.tail _ (.head _))))
    repeat' ((fail_if_success (with_reducible show wpAny _ _ (makeTail _ _ _ _ _ _ _ _ _ _ _) _ _ _)); walk1)
    all_goals
      rename News _ _ _ _ => N1
      have N2 := perm3 N1
      k_dflt (refine' tail_any (front := _ :: _ :: _ :: _ :: _ :: front) (rest := add ++ rest) ?F ?N ?T ?C ?cd ?hf ?hr ?hH ?hq ?hone ?cl ?_; (case F => k_asm); (case N => exact N2); (case T => k_asm); (case C => exact hCd); (case cd => exact rfl); (case hr => exact hr3 ha271); (case hH => exact h3.mono (fun p hp => List.mem_append_right _ hp)); (case hq => first | exact List.Mem.head _ | exact List.Mem.tail _ (List.Mem.head _)); (case cl => exact rfl); (case hf => (refine List.forall_mem_cons.mpr ⟨?_, List.forall_mem_cons.mpr ⟨?_, List.forall_mem_cons.mpr ⟨?_, List.forall_mem_cons.mpr ⟨?_, List.forall_mem_cons.mpr ⟨?_, hf3⟩⟩⟩⟩⟩ <;> first | k_ne | decide | exact Nat.ne_of_gt (by assumption))); (case hone => intro q hq _ _; rcases List.mem_cons.mp hq with rfl | hq; exact rfl; rw [List.mem_singleton.mp hq]; exact rfl))
      intro f c' oc vs tt ctv doc t3' add2 h' tk F' N9 hm hd hv hTH3 hlf1 hlf2 hlf3 hlf4 hab1 hab2 hab3
      have N' := perm3b N9
      clear N9 N2 N1
      (try k_sweep)
      k_steps
      rename News _ _ _ _ => kN
      rename Fr _ _ _ _ => kF
      (repeat (with_reducible rename _ ∧ _ => hh9; obtain ⟨_, _⟩ := hh9))
      refine hret _ _ _ _ ?_ kF (permF kN)
      refine ⟨_, f, tb, _ :: _ :: _ :: _ :: (add2 ++ add), _, _, _, rfl, rfl, ?_, ?_, ?_, ?_, ?_, ?_, ?_, ?_, ?_, ?_⟩
      · exact h1.mono sub1
      · exact hTH.mono sub2
      · exact hTH3.mono sub3
      · refine all4 ?_ ?_ ?_ ?_ (fun b hb => hab2 b hb) (fun b hb => ha271 b hb) <;> (first | assumption | (refine Mine.ltN ?_; (try dsimp only); omega) | omega)
      · refine all4 (P := fun b => ∀ p ∈ front, p.1 < b.1) (fun p hp => hlf1 p (.tail _ (.tail _ (.tail _ (.tail _ (.tail _ hp)))))) (fun p hp => lt_of_all (by assumption) p (List.mem_append_left _ hp)) (fun p hp => la1 p (List.mem_append_left _ (.tail _ (.tail _ (.tail _ hp))))) (fun p hp => Nat.lt_succ_of_lt (lt_of_all (by assumption) p (List.mem_append_left _ hp))) (fun b hb p hp => hab1 b hb p (.tail _ (.tail _ (.tail _ (.tail _ (.tail _ hp)))))) (fun b hb p hp => la4 b hb p (List.mem_append_left _ (.tail _ (.tail _ (.tail _ hp)))))
      · refine all4 ?_ ?_ ?_ ?_ (fun b hb => lt_of_all (by assumption) b (List.mem_append_right _ (List.mem_append_left _ hb))) (fun b hb => lt_of_all (by assumption) b (List.mem_append_right _ (List.mem_append_right _ (List.mem_append_left _ hb)))) <;> (first | assumption | (refine Mine.ltN ?_; (try dsimp only); omega) | omega)
      · exact fun p hp => lt_of_all (by assumption) p (List.mem_append_left _ hp)
      · exact fun p hp => lt_of_all (by assumption) p (List.mem_append_right _ (List.mem_append_right _ (List.mem_append_right _ hp)))
      · (first | assumption | (refine Mine.ltN ?_; (try dsimp only); omega) | omega)
      · clear hlf1 hlf2 hlf3 hlf4 hab1 hab2 hab3 la1 la2 la3 la4 hTH hTH3 hret hun hdp hcs kN kF h1 h2 h3
        (repeat (rename Fr _ _ _ _ => zz; clear zz))
        (repeat (rename News _ _ _ _ => zz; clear zz))
        (repeat (rename Below _ _ _ _ => zz; clear zz))
        (repeat (rename Top _ _ _ _ _ _ => zz; clear zz))
        (repeat (rename Frag.In _ _ => zz; clear zz))
        (repeat (rename AllLt _ _ => zz; clear zz))
        refine ⟨fun news b t hn hb => ?_, fun news b t c u hn hb hc => ?_, _, _, _, _, .head _⟩
        · skip
          unfold Ct
          k_fill
          intro p loose mean mg mb dp un gd cn cs a ccd cl outer A₀ base h₀ L m s Q E hB hF hK hN' hT hcs hdp hun hret
          have hcm := hn (c', oc) (memC hm)
          have N2 := News.dup (l := [_, _, _, _, _]) hN' (List.forall_mem_cons.mpr ⟨hn _ (.head _), List.forall_mem_cons.mpr ⟨hn _ (.tail _ (.head _)), List.forall_mem_cons.mpr ⟨hn _ (.tail _ (.tail _ (.head _))), List.forall_mem_cons.mpr ⟨hn _ (.tail _ (.tail _ (.tail _ (.head _)))), List.forall_mem_cons.mpr ⟨hcm, List.forall_mem_nil _⟩⟩⟩⟩⟩)
          clear hN' hcm hm hn
          simp only [List.cons_append, List.nil_append] at N2
          k_dflt (refine wpAny_call ?_)
          (refine' kdv_code (binds := [("data", .bytes b t), ("crc", .int (i : Int) v), ("table", .ref tb), ("fun", .ref (funA N true))]) ?k1 ?k2 ?k3 ?k4 ?k5 ?kA ?kF ?kK ?k6 ?k7 ?k8 ?k9 ?kB ?_ ?c2 ?c3 ?c4 ?c5; (case kA => exact rfl); (case kF => exact rfl); (case kK => assumption); (case k1 => k_asm); (case k2 => k_asm); (case k3 => k_asm); (case k4 => k_asm); (case k5 => k_asm); (case k6 => k_mem); (case k7 => exact codeRec_news (by k_asm) (by k_mem) (by assumption) (by assumption)); (case k8 => k_room); (case k9 => kdv_bind); (case c5 => decide); (case kB => exact locs rfl); (case c2 => exact rfl); (case c3 => exact rfl); (case c4 => exact rfl); k_whole; intro g' L' h' FG' F' N' B' X' T'; (try dsimp only); (try k_lift B'); (try k_fold))
          repeat' ((fail_if_success (with_reducible show wpAny _ _ (callWith _ _ _ _ _) _ _ _)); walk1)
          k_steps
          rename News _ _ _ _ => kN
          refine hret _ _ _ _ ⟨_, congrArg (Value.int · _) ?_, rfl⟩ (by assumption) (fun p hp => kN p (.tail _ (.tail _ (.tail _ (.tail _ (.tail _ hp))))))
          first | (rw [xor_cast]; rfl) | (have hx0 : x = 0 := by omega
                                          simp [crcVal, hx0])
        · skip
          unfold Ct
          k_fill
          intro p loose mean mg mb dp un gd cn cs a ccd cl outer A₀ base h₀ L m s Q E hB hF hK hN' hT hcs hdp hun hret
          have hcm := hn (c', oc) (memC hm)
          have N2 := News.dup (l := [_, _, _, _, _]) hN' (List.forall_mem_cons.mpr ⟨hn _ (.head _), List.forall_mem_cons.mpr ⟨hn _ (.tail _ (.head _)), List.forall_mem_cons.mpr ⟨hn _ (.tail _ (.tail _ (.head _))), List.forall_mem_cons.mpr ⟨hn _ (.tail _ (.tail _ (.tail _ (.head _)))), List.forall_mem_cons.mpr ⟨hcm, List.forall_mem_nil _⟩⟩⟩⟩⟩)
          clear hN' hcm hm hn
          simp only [List.cons_append, List.nil_append] at N2
          k_dflt (refine wpAny_call ?_)
          (refine' kdv_code (binds := [("data", .bytes b t), ("crc", .int (c : Int) u), ("table", .ref tb), ("fun", .ref (funA N true))]) ?k1 ?k2 ?k3 ?k4 ?k5 ?kA ?kF ?kK ?k6 ?k7 ?k8 ?k9 ?kB ?_ ?c2 ?c3 ?c4 ?c5; (case kA => exact rfl); (case kF => exact rfl); (case kK => assumption); (case k1 => k_asm); (case k2 => k_asm); (case k3 => k_asm); (case k4 => k_asm); (case k5 => k_asm); (case k6 => k_mem); (case k7 => exact codeRec_news (by k_asm) (by k_mem) (by assumption) (by assumption)); (case k8 => k_room); (case k9 => kdv_bind); (case c5 => decide); (case kB => exact locs rfl); (case c2 => exact rfl); (case c3 => exact rfl); (case c4 => exact rfl); k_whole; intro g' L' h' FG' F' N' B' X' T'; (try dsimp only); (try k_lift B'); (try k_fold))
          repeat' ((fail_if_success (with_reducible show wpAny _ _ (callWith _ _ _ _ _) _ _ _)); walk1)
          k_steps
          rename News _ _ _ _ => kN
          refine hret _ _ _ _ ⟨_, congrArg (Value.int · _) ?_, rfl⟩ (by assumption) (fun p hp => kN p (.tail _ (.tail _ (.tail _ (.tail _ (.tail _ hp))))))
          first | (rw [xor_cast]; rfl) | (have hx0 : x = 0 := by omega
                                          simp [crcVal, hx0])

end Mine
end
section
local macro_rules | `(tactic| walk_at "call ref") => `(tactic| (k_here; (with_reducible show wpAny _ _ (call (Value.ref 269) _) _ _ _); k_dflt (refine' Mine.Ct.use (Mine.verifyParams_ct _ _ _ _ _ _ _ _ _ _ ?e ?h0 ?h1 ?h2) ?B ?F ?K ?N ?T ?cs ?dp ?un ?_; (case N => k_asm); (case e => rfl); (case h0 => assumption); (case h1 => assumption); (case h2 => assumption); (case B => k_asm); (case F => k_asm); (case K => k_asm); (case T => k_asm); (case cs => rfl); (case dp => k_room); (case un => k_units)); (intro r9 n9 h9 tk9 hC F9 N9); obtain ⟨q9, t91, t92, t93, hr9, hn9, l9⟩ := hC; subst hr9 hn9; (try k_lt l9); (try k_sweep)))
namespace Mine
def MakePost (w : World) (P N i x : Nat) (rev : Bool) (front rest : List (Addr × Obj)) (r : Value) (news' : List (Addr × Obj)) : Prop :=
  ∃ f own t1' t2' t3', r = .ref f ∧ news' = (248, tabObj t1') :: (253, tabObj t2') :: (271, tabObj t3') :: (front ++ (own ++ rest)) ∧
    TabHas t1' [LamA] (own ++ rest) ∧ TabHas t2' [LamB] (own ++ rest) ∧ TabHas t3' [FunA, FunB] (own ++ rest) ∧ (∀ b ∈ own, 271 < b.1) ∧ (∀ b ∈ own, ∀ p ∈ front, p.1 < b.1) ∧
    CrcFn w f (crcVal N rev (tabPN rev P N) x) N i (own ++ rest)
theorem perm4 {h₀ h : Heap} {L : Addr} {a b c d : Addr × Obj} {l : List (Addr × Obj)} (N : News h₀ L h (a :: b :: c :: d :: l)) : News h₀ L h (b :: c :: d :: a :: l) := fun p hp => N p (by
  simp only [List.mem_cons] at hp ⊢
  rcases hp with hp | hp | hp | hp | hp <;> simp only [hp, true_or, or_true])
theorem mkCrcFun_ct (w : World) (P N : Nat) (c i x : Int) (rev : Bool) (t u v y : Tok) (t1 t2 t3 : Array Value) (front rest : List (Addr × Obj)) (ec : c = (P : Int)) (hN : SizeOk N) (hP1 : 2 ^ N ≤ P) (hP2 : P < 2 ^ (N + 1))
    (hf1 : ∀ p ∈ front, p.1 ≠ 248) (hf2 : ∀ p ∈ front, p.1 ≠ 253) (hf3 : ∀ p ∈ front, p.1 ≠ 271) (hr : ∀ p ∈ rest, 271 < p.1)
    (h1 : TabHas t1 [LamA] rest) (h2 : TabHas t2 [LamB] rest) (h3 : TabHas t3 [FunA, FunB] rest) :
    Ct w 10 (.ref 218) [.int c t, .int i v, .bool rev, .int x y] ((248, tabObj t1) :: (253, tabObj t2) :: (271, tabObj t3) :: (front ++ rest)) (MakePost w P N (mskN i N) (mskN x N) rev front rest) := by
  subst ec
  unfold Ct
  k_fill
  intro p loose mean mg mb dp un gd cn cs a ccd cl outer A₀ base h₀ L m s Q E hB hF hK hN' hT hcs hdp hun hret
  k_dflt (refine wpAny_call ?_)
  k_dflt k_enter
  k_with_none
  repeat' ((fail_if_success (with_reducible show wpAny _ _ (call (Value.ref 276) _) _ _ _)); walk1)
  rename News _ _ _ _ => N1
  have N2 := perm4 N1
  k_dflt (refine' Ct.use (mkfun_ct w P N _ _ rev _ _ _ _ t1 t2 t3 (_ :: front) rest hN (mskN_lt i N) (mskN_lt x N) ?f1 ?f2 ?f3 hr h1 h2 h3) ?B ?F ?K ?N ?T ?cs ?dp ?un ?_; (case N => exact N2); (case f1 => refine List.forall_mem_cons.mpr ⟨?_, hf1⟩; k_ne); (case f2 => refine List.forall_mem_cons.mpr ⟨?_, hf2⟩; k_ne); (case f3 => refine List.forall_mem_cons.mpr ⟨?_, hf3⟩; k_ne); (case B => k_asm); (case F => k_asm); (case K => k_asm); (case T => k_asm); (case cs => rfl); (case dp => k_room); (case un => k_units))
  intro r9 n9 h9 tk9 hC F9 N9
  obtain ⟨q, f, tb, own, t1', t2', t3', hrr, hn, H1, H2, H3, o1, o2, o3, o4, o5, o6, hfn⟩ := hC
  subst hrr hn
  simp only [List.cons_append] at N9
  clear N2 N1
  (try k_sweep)
  k_steps
  rename News _ _ _ _ => kN
  refine hret _ _ _ _ ⟨f, own, _, _, _, rfl, rfl, H1, H2, H3, o1, fun b hb p hp => o2 b hb p (.tail _ hp), hfn⟩ (by assumption) (fun p hp => kN p (by
    simp only [List.mem_cons] at hp ⊢
    rcases hp with hp | hp | hp | hp <;> simp only [hp, true_or, or_true]))
end Mine
end
section
local macro_rules | `(tactic| walk_at "call ref") => `(tactic| (k_here; (with_reducible show wpAny _ _ (call (Value.ref 269) _) _ _ _); k_dflt (refine' Mine.Ct.use (Mine.verifyParams_ct _ _ _ _ _ _ _ _ _ _ ?e ?h0 ?h1 ?h2) ?B ?F ?K ?N ?T ?cs ?dp ?un ?_; (case N => k_asm); (case e => rfl); (case h0 => assumption); (case h1 => assumption); (case h2 => assumption); (case B => k_asm); (case F => k_asm); (case K => k_asm); (case T => k_asm); (case cs => rfl); (case dp => k_room); (case un => k_units)); (intro r9 n9 h9 tk9 hC F9 N9); obtain ⟨q9, t91, t92, t93, hr9, hn9, l9⟩ := hC; subst hr9 hn9; (try k_lt l9); (try k_sweep)))
local macro_rules | `(tactic| k_all) => `(tactic| with_reducible assumption)
namespace Mine
theorem perm7 {h₀ h : Heap} {L : Addr} {a b c d e f : Addr × Obj} {l : List (Addr × Obj)} (N : News h₀ L h (a :: b :: c :: d :: e :: f :: l)) : News h₀ L h (d :: e :: f :: a :: b :: c :: l) := fun p hp => N p (by
  simp only [List.mem_cons] at hp ⊢
  rcases hp with hp | hp | hp | hp | hp | hp | hp <;> simp only [hp, true_or, or_true])
theorem ltA {p : Addr × Obj} {b : Addr} (h : p.1 < b) : @LT.lt Nat _ p.1 b := h
/-- the attributes of a sum's object: as its constructor writes them, and as new does -/
def CrcA (w : World) (es : List DictEntry) (N i x P : Nat) (rev : Bool) (f tb : Addr) (val : Nat) : Prop := ∃ k0 k1 k2 k3 k4 k5 k6 k7 a0 a1 a2 a3 a7, es = [⟨PyData.keyHash w.params "digest_size", .str "digest_size" k0, .int ((N : Int).fdiv 8) a0⟩, ⟨PyData.keyHash w.params "initCrc", .str "initCrc" k1, .int (i : Int) a1⟩, ⟨PyData.keyHash w.params "xorOut", .str "xorOut" k2, .int (x : Int) a2⟩, ⟨PyData.keyHash w.params "poly", .str "poly" k3, .int (P : Int) a3⟩, ⟨PyData.keyHash w.params "reverse", .str "reverse" k4, .bool rev⟩, ⟨PyData.keyHash w.params "_crc", .str "_crc" k5, .ref f⟩, ⟨PyData.keyHash w.params "table", .str "table" k6, .ref tb⟩, ⟨PyData.keyHash w.params "crcValue", .str "crcValue" k7, .int (val : Int) a7⟩]
def CrcB (w : World) (es : List DictEntry) (N i x P : Nat) (rev : Bool) (f tb : Addr) (val : Nat) : Prop := ∃ k0 k1 k2 k3 k4 k5 k6 k7 a1 a2 a3 a5 a7, es = [⟨PyData.keyHash w.params "_crc", .str "_crc" k0, .ref f⟩, ⟨PyData.keyHash w.params "digest_size", .str "digest_size" k1, .int ((N : Int).fdiv 8) a1⟩, ⟨PyData.keyHash w.params "initCrc", .str "initCrc" k2, .int (i : Int) a2⟩, ⟨PyData.keyHash w.params "xorOut", .str "xorOut" k3, .int (x : Int) a3⟩, ⟨PyData.keyHash w.params "table", .str "table" k4, .ref tb⟩, ⟨PyData.keyHash w.params "crcValue", .str "crcValue" k5, .int (val : Int) a5⟩, ⟨PyData.keyHash w.params "reverse", .str "reverse" k6, .bool rev⟩, ⟨PyData.keyHash w.params "poly", .str "poly" k7, .int (P : Int) a7⟩]
def CrcAB (w : World) (es : List DictEntry) (N i x P : Nat) (rev : Bool) (f tb : Addr) (val : Nat) : Prop := CrcA w es N i x P rev f tb val ∨ CrcB w es N i x P rev f tb val
def NewPost (w : World) (P N i x : Nat) (rev : Bool) (front rest : List (Addr × Obj)) (r : Value) (news' : List (Addr × Obj)) : Prop :=
  ∃ q d es f tb own t1' t2' t3', r = .ref q ∧ news' = (q, instObj 206 d) :: (d, dictOf es 8) :: (248, tabObj t1') :: (253, tabObj t2') :: (271, tabObj t3') :: (front ++ (own ++ rest)) ∧
    TabHas t1' [LamA] (own ++ rest) ∧ TabHas t2' [LamB] (own ++ rest) ∧ TabHas t3' [FunA, FunB] (own ++ rest) ∧ (∀ b ∈ own, 271 < b.1) ∧ (∀ b ∈ own, ∀ p ∈ front, p.1 < b.1) ∧
    271 < d ∧ d < q ∧ (∀ p ∈ front, p.1 < d) ∧ (∀ p ∈ rest, p.1 < d) ∧ (∀ b ∈ own, q < b.1) ∧ CrcAB w es N i x P rev f tb i ∧ CrcFn w f (crcVal N rev (tabPN rev P N) x) N i (own ++ rest)
theorem permN {h₀ h : Heap} {L : Addr} {q t1 t2 t3 v a b : Addr × Obj} {l : List (Addr × Obj)} (N : News h₀ L h (q :: t1 :: t2 :: t3 :: v :: a :: b :: l)) : News h₀ L h (a :: b :: t1 :: t2 :: t3 :: l) := fun p hp => N p (by
  simp only [List.mem_cons] at hp ⊢
  rcases hp with hp | hp | hp | hp | hp | hp <;> simp only [hp, true_or, or_true])
theorem crc_new_ct (w : World) (P N : Nat) (c i x : Int) (rev : Bool) (t u v y : Tok) (t1 t2 t3 : Array Value) (front rest : List (Addr × Obj)) (ec : c = (P : Int)) (hN : SizeOk N) (hP1 : 2 ^ N ≤ P) (hP2 : P < 2 ^ (N + 1))
    (hf1 : ∀ p ∈ front, p.1 ≠ 248) (hf2 : ∀ p ∈ front, p.1 ≠ 253) (hf3 : ∀ p ∈ front, p.1 ≠ 271) (hr : ∀ p ∈ rest, 271 < p.1)
    (h1 : TabHas t1 [LamA] rest) (h2 : TabHas t2 [LamB] rest) (h3 : TabHas t3 [FunA, FunB] rest) :
    Ct w 12 (.ref 206) [.int c t, .int i v, .bool rev, .int x y] ((248, tabObj t1) :: (253, tabObj t2) :: (271, tabObj t3) :: (front ++ rest)) (NewPost w P N (mskN i N) (mskN x N) rev front rest) := by
  subst ec
  unfold Ct
  k_fill
  intro p loose mean mg mb dp un gd cn cs a ccd cl outer A₀ base h₀ L m s Q E hB hF hK hN' hT hcs hdp hun hret
  k_with_none
  repeat' ((fail_if_success (with_reducible show wpAny _ _ (call (Value.ref 276) _) _ _ _)); walk1)
  rename (_ ∧ _ ∧ _ ∧ _ ∧ _ ∧ AllLt _ (front ++ rest)) => lB
  have lB1 := lB.1
  have lB2 := lB.2.1
  rename News _ _ _ _ => N1
  have N2 := perm7 N1
  k_dflt (refine' Ct.use (mkfun_ct w P N _ _ rev _ _ _ _ t1 t2 t3 (_ :: _ :: _ :: front) rest hN (mskN_lt i N) (mskN_lt x N) ?f1 ?f2 ?f3 hr h1 h2 h3) ?B ?F ?K ?N ?T ?cs ?dp ?un ?_; (case N => exact N2); (case f1 => refine List.forall_mem_cons.mpr ⟨?_, List.forall_mem_cons.mpr ⟨?_, List.forall_mem_cons.mpr ⟨?_, hf1⟩⟩⟩ <;> k_ne); (case f2 => refine List.forall_mem_cons.mpr ⟨?_, List.forall_mem_cons.mpr ⟨?_, List.forall_mem_cons.mpr ⟨?_, hf2⟩⟩⟩ <;> k_ne); (case f3 => refine List.forall_mem_cons.mpr ⟨?_, List.forall_mem_cons.mpr ⟨?_, List.forall_mem_cons.mpr ⟨?_, hf3⟩⟩⟩ <;> k_ne); (case B => k_asm); (case F => k_asm); (case K => k_asm); (case T => k_asm); (case cs => rfl); (case dp => k_room); (case un => k_units))
  intro r9 n9 h9 tk9 hC F9 N9
  obtain ⟨q, f, tb, own, t1', t2', t3', hrr, hn, H1, H2, H3, o1, o2, o3, o4, o5, o6, hfn⟩ := hC
  subst hrr hn
  simp only [List.cons_append] at N9
  clear N2 N1
  have lq1 := ltA <| o4 _ (.head _)
  have lq2 := ltA <| o4 _ (.tail _ (.head _))
  have lq3 := ltA <| o4 _ (.tail _ (.tail _ (.head _)))
  dsimp only at lq1 lq2 lq3
  rename (_ ∧ _ ∧ _ ∧ AllLt _ (front ++ rest)) => lA
  have hdd : ∀ p ∈ front ++ (own ++ rest), p.1 ≠ _ := fun p hp => by
    rcases List.mem_append.mp hp with hp | hp
    · exact Nat.ne_of_lt (lt_of_all lA.2.2.2 p (List.mem_append_left _ hp))
    · rcases List.mem_append.mp hp with hp | hp
      · exact Nat.ne_of_gt (o2 p hp _ (.tail _ (.tail _ (.head _))))
      · exact Nat.ne_of_lt (lt_of_all lA.2.2.2 p (List.mem_append_right _ hp))
  (try k_sweep)
  k_steps
  rename News _ _ _ _ => kN
  rename (_ : Nat) < _ => l2
  refine hret _ _ _ _ ?_ (by assumption) (permN kN)
  refine ⟨_, _, _, f, tb, own, _, _, _, rfl, rfl, H1, H2, H3, o1, fun b hb p hp => o2 b hb p (.tail _ (.tail _ (.tail _ hp))), lA.2.2.1, ?_, fun p hp => lt_of_all lA.2.2.2 p (List.mem_append_left _ hp), fun p hp => lt_of_all lA.2.2.2 p (List.mem_append_right _ hp), fun b hb => o2 b hb _ (.tail _ (.head _)), .inl ⟨_, _, _, _, _, _, _, _, _, _, _, _, _, rfl⟩, hfn⟩
  assumption
end Mine
end
section
local macro_rules | `(tactic| walk_at "callWith") => `(tactic| (k_here; (try dsimp only); k_dflt (refine' callWith_F ?k1 ?_; (case k1 => k_extra "crcF"); k_whole)))
local macro_rules | `(tactic| walk_at "FnAt") => `(tactic| (k_extra "crcF"))
local macro_rules | `(tactic| walk_at "call ref") => `(tactic| (k_here; (with_reducible show wpAny _ _ (call (Value.ref _) [Value.bytes _ _, Value.int _ _]) _ _ _); (rename Mine.CrcFn _ _ _ _ _ _ => cfX); k_dflt (refine' Mine.Ct.use (cfX.2.1 _ _ _ _ _ ?S ?hb ?hc) ?B ?F ?K ?N ?T ?cs ?dp ?un ?_; (case N => k_asm); (case S => k_extra "crcS"); (case hb => assumption); (case hc => assumption); (case B => k_asm); (case F => k_asm); (case K => k_asm); (case T => k_asm); (case cs => rfl); (case dp => k_room); (case un => k_units)); (intro r9 n9 h9 tk9 hC F9 N9); obtain ⟨t9, hr9, hn9⟩ := hC; subst hr9 hn9; (try k_sweep)))
local macro_rules | `(tactic| k_all) => `(tactic| with_reducible assumption)
namespace Mine
theorem update_ct (w : World) (N i x P : Nat) (rev : Bool) (f tb q d : Addr) (val : Nat) (es : List DictEntry) (b : Array UInt8) (t : Tok) (F : Nat → Array UInt8 → Nat) (S front : List (Addr × Obj))
    (hE : CrcAB w es N i x P rev f tb val) (hF : CrcFn w f F N i S) (hS : ∀ p ∈ S, p ∈ front) (hb : b.size ≤ 1000) (hv : val < 2 ^ N) (hd : d < q) (hfd : ∀ p ∈ front, p.1 ≠ d) :
    Ct w 8 (.ref 181) [.ref q, .bytes b t] ((q, instObj 206 d) :: (d, dictOf es 8) :: front) (fun r news' => ∃ es', r = .none ∧ news' = (q, instObj 206 d) :: (d, dictOf es' 8) :: front ∧ CrcAB w es' N i x P rev f tb (F val b)) := by
  obtain ⟨oc, od, fd, sl, hfm⟩ := hF.2.2
  have hfm := hS _ hfm
  rcases hE with ⟨_, _, _, _, _, _, _, _, _, _, _, _, _, rfl⟩ | ⟨_, _, _, _, _, _, _, _, _, _, _, _, _, rfl⟩
  all_goals
    unfold Ct
    k_fill
    intro p loose mean mg mb dp un gd cn cs a ccd cl outer A₀ base h₀ L m s Q E hB hF hK hN' hT hcs hdp hun hret
    have hdq : @LT.lt Nat _ d q := hd
    k_dflt (refine wpAny_call ?_)
    k_dflt k_enter
    k_with_none
    k_with "crcF" => k_dflt (exact FnAt.of (by k_asm) (.tail _ (.tail _ hfm)))
    k_with "crcS" => exact fun p hp => .tail _ (.tail _ (hS p hp))
    k_steps
    rename News _ _ _ _ => kN
    exact hret _ _ _ _ ⟨_, rfl, rfl, by first | exact .inl ⟨_, _, _, _, _, _, _, _, _, _, _, _, _, rfl⟩ | exact .inr ⟨_, _, _, _, _, _, _, _, _, _, _, _, _, rfl⟩⟩ (by assumption) kN
end Mine
end
section
local macro_rules | `(tactic| walk_at "call type:bytes") => `(tactic| (k_here; (with_reducible show wpAny _ _ (call (Value.type _) [Value.ref _]) _ _ _); k_dflt (refine' bytes_K ?F ?N ?l ?i ?r ?z ?h ?_; (case F => k_asm); (case N => k_asm); (case l => is_list); (case i => first | l_ints | l_intsW); (case r => k_extra "bytesR"); (case z => first | size_fits | (simp only [sizeLine_eq, List.length_cons, List.length_nil]; decide)); (case h => with_unfolding_all rfl); k_whole); intro h' t' k' F' N' hB'; (try k_sweep)))
local macro_rules | `(tactic| k_all) => `(tactic| with_reducible assumption)
namespace Mine
theorem and_255 (z : Int) : 0 ≤ Builtin.bitAnd z 255 ∧ Builtin.bitAnd z 255 < 256 := by
  have h := bitAnd_range z (show (0 : Int) ≤ 255 by decide)
  exact ⟨h.1, by omega⟩
theorem and_255c (z : Nat) : Builtin.bitAnd (z : Int) 255 = ((z % 256 : Nat) : Int) := by rw [show (255 : Int) = ((255 : Nat) : Int) from rfl, and_cast, and255]
/-- the octets of a digest -/
def digB (k val : Nat) : List UInt8 := ((List.range k).map fun j => ((val >>> (8 * j)) % 256).toUInt8).reverse
theorem digest_ct (w : World) (N i x P : Nat) (rev : Bool) (f tb q d : Addr) (val : Nat) (es : List DictEntry) (front : List (Addr × Obj))
    (hN : SizeOk N) (hE : CrcAB w es N i x P rev f tb val) (hv : val < 2 ^ N) (hd : d < q) (hfd : ∀ p ∈ front, p.1 ≠ d) :
    Ct w 8 (.ref 188) [.ref q] ((q, instObj 206 d) :: (d, dictOf es 8) :: front) (fun r news' => ∃ t', r = .bytes (digB (N / 8) val).toArray t' ∧ news' = (q, instObj 206 d) :: (d, dictOf es 8) :: front) := by
  rcases hN with rfl | rfl | rfl | rfl | rfl
  all_goals
    rcases hE with ⟨_, _, _, _, _, _, _, _, _, _, _, _, _, rfl⟩ | ⟨_, _, _, _, _, _, _, _, _, _, _, _, _, rfl⟩
    all_goals
      unfold Ct
      k_fill
      intro p loose mean mg mb dp un gd cn cs a ccd cl outer A₀ base h₀ L m s Q E hB hF hK hN' hT hcs hdp hun hret
      have hdq : @LT.lt Nat _ d q := hd
      k_dflt (refine wpAny_call ?_)
      k_dflt k_enter
      k_with_none
      k_with "bytesR" => (simp only [List.forall_mem_cons, List.not_mem_nil, false_implies, implies_true, and_true]; (repeat (first | exact and_255 _ | refine ⟨and_255 _, ?_⟩)))
      k_steps
      rename News _ _ _ _ => kN
      refine hret _ _ _ _ ⟨_, congrArg (fun l => Value.bytes (List.toArray l) _) ?_, rfl⟩ (by assumption) (fun p hp => kN p (.tail _ hp))
      simp only [List.map, show Int.toNat 8 = 8 from rfl, shr_cast, and_255c, Int.toNat_natCast]
      simp only [digB, List.range_succ, List.range_zero, List.map_append, List.map_cons, List.map_nil, List.reverse_append, List.reverse_cons, List.reverse_nil, List.nil_append, List.cons_append, ← Nat.shiftRight_add, Nat.reduceDiv, Nat.reduceMul, Nat.reduceAdd, Nat.shiftRight_zero, Nat.mul_zero]
end Mine
end
section
local macro_rules | `(tactic| k_all) => `(tactic| with_reducible assumption)
namespace Mine
theorem new0_ct (w : World) (N i x P : Nat) (rev : Bool) (f tb q d : Addr) (val : Nat) (es : List DictEntry) (front : List (Addr × Obj))
    (hN : SizeOk N) (hE : CrcAB w es N i x P rev f tb val) (hd : d < q) (hfd : ∀ p ∈ front, p.1 ≠ d) :
    Ct w 8 (.ref 167) [.ref q] ((q, instObj 206 d) :: (d, dictOf es 8) :: front) (fun r news' => ∃ q' d' es', r = .ref q' ∧ news' = (q', instObj 206 d') :: (d', dictOf es' 8) :: (q, instObj 206 d) :: (d, dictOf es 8) :: front ∧ CrcAB w es' N i x P rev f tb i ∧ d' < q' ∧ q < d' ∧ d < d' ∧ ∀ p ∈ front, p.1 < d') := by
  rcases hE with ⟨_, _, _, _, _, _, _, _, _, _, _, _, _, rfl⟩ | ⟨_, _, _, _, _, _, _, _, _, _, _, _, _, rfl⟩
  all_goals
    unfold Ct
    k_fill
    intro p loose mean mg mb dp un gd cn cs a ccd cl outer A₀ base h₀ L m s Q E hB hF hK hN' hT hcs hdp hun hret
    have hdq : @LT.lt Nat _ d q := hd
    k_dflt (refine wpAny_call ?_)
    k_dflt k_enter
    k_with_none
    k_steps
    rename News _ _ _ _ => kN
    (repeat (with_reducible rename _ ∧ _ => hh9; obtain ⟨_, _⟩ := hh9))
    exact hret _ _ _ _ ⟨_, _, _, rfl, rfl, .inr ⟨_, _, _, _, _, _, _, _, _, _, _, _, _, rfl⟩, by assumption, by assumption, by assumption, by first | assumption | exact lt_of_all (by assumption)⟩ (by assumption) kN
end Mine
namespace Mine
theorem new1_ct (w : World) (N i x P : Nat) (rev : Bool) (f tb q d : Addr) (val : Nat) (es : List DictEntry) (b : Array UInt8) (t : Tok) (F : Nat → Array UInt8 → Nat) (S front : List (Addr × Obj))
    (hN : SizeOk N) (hE : CrcAB w es N i x P rev f tb val) (hF : CrcFn w f F N i S) (hS : ∀ p ∈ S, p ∈ front) (hb : b.size ≤ 1000) (hi : i < 2 ^ N) (hd : d < q) (hfd : ∀ p ∈ front, p.1 ≠ d) :
    Ct w 11 (.ref 167) [.ref q, .bytes b t] ((q, instObj 206 d) :: (d, dictOf es 8) :: front) (fun r news' => ∃ q' d' es', r = .ref q' ∧ news' = (q', instObj 206 d') :: (d', dictOf es' 8) :: (q, instObj 206 d) :: (d, dictOf es 8) :: front ∧ CrcAB w es' N i x P rev f tb (F i b) ∧ d' < q' ∧ q < d' ∧ d < d' ∧ ∀ p ∈ front, p.1 < d') := by
  rcases hE with ⟨_, _, _, _, _, _, _, _, _, _, _, _, _, rfl⟩ | ⟨_, _, _, _, _, _, _, _, _, _, _, _, _, rfl⟩
  all_goals
    unfold Ct
    k_fill
    intro p loose mean mg mb dp un gd cn cs a ccd cl outer A₀ base h₀ L m s Q E hB hF' hK hN' hT hcs hdp hun hret
    have hdq : @LT.lt Nat _ d q := hd
    k_dflt (refine wpAny_call ?_)
    k_dflt k_enter
    k_with_none
    k_with "crcE" => exact .inr ⟨_, _, _, _, _, _, _, _, _, _, _, _, _, rfl⟩
    k_with "crcS" => exact fun p hp => .tail _ (.tail _ (hS p hp))
    k_with "crcD" => (rename (_ ∧ _ ∧ AllLt _ front) => lA; exact List.forall_mem_cons.mpr ⟨Nat.ne_of_lt lA.1, List.forall_mem_cons.mpr ⟨Nat.ne_of_lt lA.2.1, fun p hp => Nat.ne_of_lt (lt_of_all lA.2.2 p hp)⟩⟩)
    repeat' ((fail_if_success (with_reducible show wpAny _ _ (call (Value.ref 181) _) _ _ _)); walk1)
    rename (_ ∧ _ ∧ AllLt _ front) => lA
    rename (_ : Nat) < _ => l2
    k_dflt (refine' Mine.Ct.use (Mine.update_ct w N i x P rev f tb _ _ i _ b _ F S ((q, _) :: (d, _) :: front) ?hE hF ?hS hb hi ?hd ?hfd) ?B ?F ?K ?N ?T ?cs ?dp ?un ?_; (case N => k_asm); (case hE => exact .inr ⟨_, _, _, _, _, _, _, _, _, _, _, _, _, rfl⟩); (case hS => exact fun p hp => .tail _ (.tail _ (hS p hp))); (case hd => assumption); (case hfd => exact List.forall_mem_cons.mpr ⟨Nat.ne_of_lt lA.1, List.forall_mem_cons.mpr ⟨Nat.ne_of_lt lA.2.1, fun p hp => Nat.ne_of_lt (lt_of_all lA.2.2 p hp)⟩⟩); (case B => k_asm); (case F => k_asm); (case K => k_asm); (case T => k_asm); (case cs => rfl); (case dp => k_room); (case un => k_units))
    intro r9 n9 h9 tk9 hC F9 N9
    obtain ⟨es9, hr9, hn9, hE9⟩ := hC
    subst hr9 hn9
    k_steps
    rename News _ _ _ _ => kN
    exact hret _ _ _ _ ⟨_, _, _, rfl, rfl, hE9, by assumption, lA.1, lA.2.1, lt_of_all lA.2.2⟩ (by assumption) kN
end Mine
end
section
local macro_rules | `(tactic| k_all) => `(tactic| with_reducible assumption)
namespace Mine
theorem copy_ct (w : World) (N i x P : Nat) (rev : Bool) (f tb q d : Addr) (val : Nat) (es : List DictEntry) (front : List (Addr × Obj))
    (hN : SizeOk N) (hE : CrcAB w es N i x P rev f tb val) (hd : d < q) (hfd : ∀ p ∈ front, p.1 ≠ d) :
    Ct w 11 (.ref 174) [.ref q] ((q, instObj 206 d) :: (d, dictOf es 8) :: front) (fun r news' => ∃ q' d' es', r = .ref q' ∧ news' = (q', instObj 206 d') :: (d', dictOf es' 8) :: (q, instObj 206 d) :: (d, dictOf es 8) :: front ∧ CrcAB w es' N i x P rev f tb val ∧ d' < q' ∧ q < d' ∧ d < d' ∧ ∀ p ∈ front, p.1 < d') := by
  have hnew := new0_ct w N i x P rev f tb q d val es front hN hE hd hfd
  rcases hE with ⟨_, _, _, _, _, _, _, _, _, _, _, _, _, rfl⟩ | ⟨_, _, _, _, _, _, _, _, _, _, _, _, _, rfl⟩
  all_goals
    unfold Ct
    k_fill
    intro p loose mean mg mb dp un gd cn cs a ccd cl outer A₀ base h₀ L m s Q E hB hF hK hN' hT hcs hdp hun hret
    have hdq : @LT.lt Nat _ d q := hd
    k_dflt (refine wpAny_call ?_)
    k_dflt k_enter
    k_with_none
    repeat' ((fail_if_success (with_reducible show wpAny _ _ (call (Value.ref 167) _) _ _ _)); walk1)
    k_dflt (refine' Mine.Ct.use hnew ?B ?F ?K ?N ?T ?cs ?dp ?un ?_; (case N => k_asm); (case B => k_asm); (case F => k_asm); (case K => k_asm); (case T => k_asm); (case cs => rfl); (case dp => k_room); (case un => k_units))
    intro r9 n9 h9 tk9 hC F9 N9
    obtain ⟨q', d', es', hr9, hn9, hE9, g1, g2, g3, g4⟩ := hC
    subst hr9 hn9
    have g1' : @LT.lt Nat _ d' q' := g1
    have g2' : @LT.lt Nat _ q d' := g2
    have g3' : @LT.lt Nat _ d d' := g3
    have g4' : ∀ p ∈ front, p.1 ≠ d' := fun p hp => Nat.ne_of_lt (g4 p hp)
    rcases hE9 with ⟨_, _, _, _, _, _, _, _, _, _, _, _, _, rfl⟩ | ⟨_, _, _, _, _, _, _, _, _, _, _, _, _, rfl⟩
    all_goals
      k_steps
      rename News _ _ _ _ => kN
      exact hret _ _ _ _ ⟨_, _, _, rfl, rfl, by first | exact .inl ⟨_, _, _, _, _, _, _, _, _, _, _, _, _, rfl⟩ | exact .inr ⟨_, _, _, _, _, _, _, _, _, _, _, _, _, rfl⟩, g1, g2, g3, g4⟩ (by assumption) kN
end Mine
end
section
namespace Mine
theorem IntsAre.len {vs : List Value} {ns : List Int} (h : IntsAre vs ns) : vs.length = ns.length := by
  induction h <;> simp_all
/-- an item of the script, or a default -/
def atI (ns : List Int) (i o : Int) : Int := if i.toNat < ns.length then ns.getD i.toNat 0 else o
/-- as Ct, with a word on the base -/
def CtH (w : World) (d : Nat) (f : Value) (vs : List Value) (news : List (Addr × Obj)) (H : Heap → Prop) (C : Value → List (Addr × Obj) → Prop) : Prop :=
  ∀ (p : Program) (loose : List Str) (mean : ExcName → Option Value) (mg mb : Str → Option Value) (dp un : Nat) (gd : Option (List Code)) (cn : Str) (cs : Scope) (a : Addr) (ccd : Value) (cl : List (Str × Addr)) (outer : List Env) (A₀ : Around) (base h₀ : Heap) (L : Addr) (m : Str → Option Value) (s : Shared) (Q E : Value → Shared → Prop),
    Below A₀ base outer h₀ → Fr h₀ L s.heap m → (Mine.hd.heap_39 w.params).In h₀ → News h₀ L s.heap news → Top p loose mean mg mb h₀ → cs.kind = .function → dp + d < recursionLimit → un + 16 * d < cLine → H h₀ →
    (∀ r news' h' tk', C r news' → Fr h₀ L h' m → News h₀ L h' news' → Q r { s with heap := h', toks := tk' }) →
    wpAny (model PySem.Challenge.rw_aa5007_03.row.prog w) (ktrTop dp un gd cn cs L a ccd cl outer) (call f vs) Q E s
theorem CtH.use {w : World} {d : Nat} {f : Value} {vs : List Value} {news : List (Addr × Obj)} {H : Heap → Prop} {C : Value → List (Addr × Obj) → Prop} (h : CtH w d f vs news H C)
    {p : Program} {loose : List Str} {mean : ExcName → Option Value} {mg mb : Str → Option Value} {dp un : Nat} {gd : Option (List Code)} {cn : Str} {cs : Scope} {a : Addr} {ccd : Value} {cl : List (Str × Addr)} {outer : List Env} {A₀ : Around} {base h₀ : Heap} {L : Addr} {m : Str → Option Value} {s : Shared} {Q E : Value → Shared → Prop}
    (hB : Below A₀ base outer h₀) (hF : Fr h₀ L s.heap m) (hK : (Mine.hd.heap_39 w.params).In h₀) (hN : News h₀ L s.heap news) (hT : Top p loose mean mg mb h₀) (hcs : cs.kind = .function) (hd : dp + d < recursionLimit) (hu : un + 16 * d < cLine) (hH : H h₀)
    (hret : ∀ r news' h' tk', C r news' → Fr h₀ L h' m → News h₀ L h' news' → Q r { s with heap := h', toks := tk' }) :
    wpAny (model PySem.Challenge.rw_aa5007_03.row.prog w) (ktrTop dp un gd cn cs L a ccd cl outer) (call f vs) Q E s :=
  h p loose mean mg mb dp un gd cn cs a ccd cl outer A₀ base h₀ L m s Q E hB hF hK hN hT hcs hd hu hH hret
theorem isl_keep {l : Addr} {a : Array Value} {h h' : Heap} (hH : h.IsList l a) (hk : ∀ b o, h.get? b = some o → h'.get? b = some o) : h'.IsList l a := by
  obtain ⟨o, h1, h2⟩ := hH
  exact ⟨o, hk _ _ h1, h2⟩
theorem isl2 {l : Addr} {a : Array Value} {h₀ g h : Heap} {L L' : Addr} {m m' : Str → Option Value} (hH : h₀.IsList l a) (F : Fr h₀ L g m) (F' : Fr g L' h m') : h.IsList l a := isl_keep (isl_keep hH F.keep) F'.keep
theorem item_base {prog : Program} {w : World} {A : Around} {E : Value → Shared → Prop} {s : Shared} {tb : Addr} {vr : List Value} {ns : List Int} {value slice : Expr} {i : Int} {u : Tok} {Q : Value → Shared → Prop}
    (hls : s.heap.IsList tb vr.toArray) (hI : IntsAre vr ns) (hb : 0 ≤ i ∧ i < (ns.length : Int)) (hl : ns.length < 2 ^ 60) (h : ∀ t', Q (.int (ns.getD i.toNat 0) t') s)
    (hs : subscripted slice false (.ref tb) (.int i u) = operate [.ref tb, .int i u] (getItem (.ref tb) (.int i u)) := by with_unfolding_all rfl) :
    wpAny (model prog w) A (subscriptTail value slice (.ref tb) (.int i u)) Q E s := by
  have hi : i.toNat < ns.length := by omega
  obtain ⟨t, ht⟩ := hI.get i.toNat ns[i.toNat] (by simp [hi])
  refine PyProof.Rows.tail_any hls.typeIs slot_list_getitem.lookup (wpAny_getItem_list hls hb.1 (by omega) (by simpa using ht) ?_) hs
  have : ns.getD i.toNat 0 = ns[i.toNat] := by simp [List.getD, hi]
  rw [← this]; exact h t
end Mine
local macro_rules | `(tactic| walk_at "call builtin:len") => `(tactic| (k_here; (with_reducible show wpAny _ _ (call (Value.builtin "len") [Value.ref _]) _ _ _); k_dflt (refine' kun_lenL ?k1 ?k2 ?k3 ?_; (case k1 => k_extra "isl"); (case k2 => exact congrArg (Nat.cast (R := Int)) (by simpa using Mine.IntsAre.len (by assumption))); (case k3 => omega); k_whole)))
local macro_rules | `(tactic| walk_at "subscriptTail") => `(tactic| (k_here; (with_reducible show wpAny _ _ (subscriptTail _ _ (Value.ref _) (Value.int _ _)) _ _ _); k_dflt (refine' Mine.item_base ?N ?I ?b ?l ?_; (case N => k_extra "isl"); (case I => assumption); (case b => omega); (case l => omega)); intro t9))
namespace Mine
theorem at_ct (w : World) (l0 : Addr) (vs : List Value) (ns : List Int) (i o : Int) (t u : Tok) (news : List (Addr × Obj)) (hI : IntsAre vs ns) (hl : ns.length ≤ 63) (hi : 0 ≤ i) :
    CtH w 2 (.ref 292) [.ref l0, .int i t, .int o u] news (fun h => h.IsList l0 vs.toArray) (fun r news' => ∃ t', r = .int (atI ns i o) t' ∧ news' = news) := by
  unfold CtH
  k_fill
  intro p' loose mean mg mb dp un gd cn cs a ccd cl outer A₀ base h₀ L m s Q E hB hF hK hN' hT hcs hdp hun hH hret
  k_dflt (refine wpAny_call ?_)
  k_dflt k_enter
  k_with_none
  k_with "isl" => exact isl2 hH (by assumption) (by assumption)
  k_steps
  · exact hret _ _ _ _ ⟨_, congrArg (Value.int · _) (by unfold atI; rw [if_pos (by omega)]), rfl⟩ (by assumption) (by assumption)
  · exact hret _ _ _ _ ⟨_, congrArg (Value.int · _) (by unfold atI; rw [if_neg (by omega)]), rfl⟩ (by assumption) (by assumption)
end Mine
end
section
namespace Mine
def endsL : List Int := [0, 8, 4, 12, 2, 10, 6, 14, 1, 9, 5, 13, 3, 11, 7, 15]
theorem ends_br : ∀ i, i < 16 → endsL.getD i 0 = ((brL 4 i : Nat) : Int) := by decide
theorem ends_item {w : World} {A : Around} {E : Value → Shared → Prop} {s : Shared} {h₀ : Heap} {L : Addr} {m : Str → Option Value} {value slice : Expr} {k : Int} {n : Nat} {t : Tok} {Q : Value → Shared → Prop}
    (F : Fr h₀ L s.heap m) (X₀ : (Mine.hd.heap_39 w.params).In h₀) (ek : k = (n : Int)) (hk : n < 16) (h : ∀ t, Q (.int ((brL 4 n : Nat) : Int) t) s)
    (hs : subscripted slice false (.ref 285) (.int k t) = operate [.ref 285, .int k t] (getItem (.ref 285) (.int k t)) := by with_unfolding_all rfl) :
    wpAny (model PySem.Challenge.rw_aa5007_03.row.prog w) A (subscriptTail value slice (.ref 285) (.int k t)) Q E s := by
  subst ek
  revert F X₀ h hs
  k_fill
  intro F X₀ h hs
  refine' topTupAny_K (ns := endsL) F X₀ ?a ?b ?c ?d ?e (fun t' => ?f) hs
  case a => k_is
  case b => unfold endsL; l_ints
  case c => omega
  case d => simp [endsL]; omega
  case e => omega
  case f =>
    rw [show ((n : Int)).toNat = n from rfl, ends_br n hk]
    exact h t'
end Mine
namespace Mine
theorem ek_lo (V k : Nat) {kN : Int} (h : kN = 0 + (k : Int)) : Builtin.bitAnd (Builtin.bitAnd ((V : Int).fdiv (2 ^ (8 * kN).toNat)) 255) 15 = (((V >>> (8 * k) &&& 255) &&& 15 : Nat) : Int) := by
  subst h
  rw [show (8 * (0 + (k : Int))).toNat = 8 * k by omega, shr_cast, show (255 : Int) = ((255 : Nat) : Int) from rfl, and_cast, show (15 : Int) = ((15 : Nat) : Int) from rfl, and_cast]
theorem ek_hi (V k : Nat) {kN : Int} (h : kN = 0 + (k : Int)) : (Builtin.bitAnd ((V : Int).fdiv (2 ^ (8 * kN).toNat)) 255).fdiv (2 ^ Int.toNat 4) = (((V >>> (8 * k) &&& 255) >>> 4 : Nat) : Int) := by
  subst h
  rw [show (8 * (0 + (k : Int))).toNat = 8 * k by omega, shr_cast, show (255 : Int) = ((255 : Nat) : Int) from rfl, and_cast, show Int.toNat 4 = 4 from rfl, shr_cast]
theorem turned_state {V k : Nat} {o : Int} (h : o = ((brL (8 * k) V : Nat) : Int)) : o * 256 + ((brL 4 ((V >>> (8 * k) &&& 255) &&& 15) : Nat) : Int) * 16 + ((brL 4 ((V >>> (8 * k) &&& 255) >>> 4) : Nat) : Int) = ((brL (8 * (k + 1)) V : Nat) : Int) := by
  subst h
  rw [brL_octet]; simp
end Mine
namespace Mine

theorem turned_ct (w : World) (V S : Nat) (v : Int) (si : Int) (t u : Tok) (news : List (Addr × Obj)) (e : v = (V : Int)) (es : si = (S : Int)) (hS : S ≤ 64) :
    Ct w 2 (.ref 299) [.int v t, .int si u] news (fun r news' => ∃ t', r = .int ((brL (8 * (S / 8)) V : Nat) : Int) t' ∧ news' = news) := by
  subst e es
  unfold Ct
  k_fill
  intro p' loose mean mg mb dp un gd cn cs a ccd cl outer A₀ base h₀ L m s Q E hB hF hK hN' hT hcs hdp hun hret
  k_dflt (refine wpAny_call ?_)
  k_dflt k_enter
  k_with_none
  k_with "pyIter ref" => k_state (fun (pre : List Int) (out : Int) => out = ((brL (8 * pre.length) V : Nat) : Int)) "out"
  repeat' ((fail_if_success (with_reducible show wpAny _ _ (subscriptTail _ _ (Value.ref 285) (Value.int _ _)) _ _ _)); walk1)
  · rename List Int => pr9
    rename (_ = (0 : Int) + _) => hk9
    k_here
    k_dflt (refine' Mine.ends_item (n := (V >>> (8 * pr9.length) &&& 255) &&& 15) ?F ?X ?ek ?hk ?_)
    case F => k_asm
    case X => k_asm
    case hk => exact Mine.oct15_lt _
    case ek => exact Mine.ek_lo V _ hk9
    intro t9
    (try dsimp only)
    repeat' ((fail_if_success (with_reducible show wpAny _ _ (subscriptTail _ _ (Value.ref 285) (Value.int _ _)) _ _ _)); walk1)
    (try dsimp only)
    k_here
    k_dflt (refine' Mine.ends_item (n := (V >>> (8 * pr9.length) &&& 255) >>> 4) ?F ?X ?ek ?hk ?_)
    case F => k_asm
    case X => k_asm
    case hk => exact Mine.oct4_lt _
    case ek => exact Mine.ek_hi V _ hk9
    intro t8
    (try dsimp only)
    k_with "state" => exact (turned_state (by assumption)).trans (by simp)
    k_steps
  · refine hret _ _ _ _ ⟨_, congrArg (Value.int · _) ?_, rfl⟩ (by assumption) (by assumption)
    rename (_ = ((brL _ V : Nat) : Int)) => ki9
    rw [ki9, rangeKs_length, show (8 : Int) = ((8 : Nat) : Int) from rfl, fdiv_cast, show ((((S / 8 : Nat) : Int)) - 0).toNat = S / 8 by omega]
end Mine
end
section
namespace Mine
theorem cx_mul8 (n : Nat) : 8 * (n : Int) = ((8 * n : Nat) : Int) := by omega
end Mine
local macro_rules | `(tactic| walk_at "call ref") => `(tactic| (k_here; (with_reducible show wpAny _ _ (call (Value.ref 299) _) _ _ _); k_dflt (refine' Mine.Ct.use (Mine.turned_ct _ _ _ _ _ _ _ _ ?e ?es ?hS) ?B ?F ?K ?N ?T ?cs ?dp ?un ?_; (case N => k_asm); (case e => rfl); (case es => first | (with_reducible exact rfl) | exact Mine.cx_mul8 _); (case hS => omega); (case B => k_asm); (case F => k_asm); (case K => k_asm); (case T => k_asm); (case cs => rfl); (case dp => k_room); (case un => k_units)); (intro r9 n9 h9 tk9 hC F9 N9); obtain ⟨t9, hr9, hn9⟩ := hC; subst hr9 hn9; (try dsimp only); (try k_sweep)))
namespace Mine
theorem laid_ct (w : World) (V S : Nat) (v si : Int) (r : Bool) (t u : Tok) (news : List (Addr × Obj)) (e : v = (V : Int)) (es : si = (S : Int)) (hS : S ≤ 64) (h8 : 8 * (S / 8) = S) :
    Ct w 4 (.ref 306) [.int v t, .int si u, .bool r] news (fun r' news' => ∃ t', r' = .int ((lay r S V : Nat) : Int) t' ∧ news' = news) := by
  subst e es
  unfold Ct
  k_fill
  intro p' loose mean mg mb dp un gd cn cs a ccd cl outer A₀ base h₀ L m s Q E hB hF hK hN' hT hcs hdp hun hret
  k_dflt (refine wpAny_call ?_)
  k_dflt k_enter
  k_with_none
  cases r
  all_goals
    k_steps
    exact hret _ _ _ _ ⟨_, congrArg (Value.int · _) (by first | rfl | (rw [h8]; rfl)), rfl⟩ (by assumption) (by assumption)
end Mine
end
section
namespace Mine
theorem p256' (k : Nat) : ((256 : Int) ^ k) = ((2 ^ (8 * k) : Nat) : Int) := by
  rw [Nat.pow_mul]; simp
theorem octs_little' {b : Array UInt8} {k X : Nat} (h : KBw.bInts b = KTBy.little k ((brL (8 * (8 * k / 8)) X : Nat) : Int)) (hX : X < 2 ^ (8 * k)) : msgOf true (octs b) = X ∧ b.size = k := by
  rw [Nat.mul_div_cancel_left _ (by decide)] at h
  exact octs_little h hX
end Mine
local macro_rules | `(tactic| walk_at "call ref") => `(tactic| (k_here; (with_reducible show wpAny _ _ (call (Value.ref 299) _) _ _ _); k_dflt (refine' Mine.Ct.use (Mine.turned_ct _ _ _ _ _ _ _ _ ?e ?es ?hS) ?B ?F ?K ?N ?T ?cs ?dp ?un ?_; (case N => k_asm); (case e => rfl); (case es => first | (with_reducible exact rfl) | exact Mine.cx_mul8 _); (case hS => omega); (case B => k_asm); (case F => k_asm); (case K => k_asm); (case T => k_asm); (case cs => rfl); (case dp => k_room); (case un => k_units)); (intro r9 n9 h9 tk9 hC F9 N9); obtain ⟨t9, hr9, hn9⟩ := hC; subst hr9 hn9; (try dsimp only); (try k_sweep)))
local macro_rules | `(tactic| walk_at "call builtin:int.to_bytes") => `(tactic| (k_here; (try dsimp only); first | (with_unfolding_all refine KTBy.to_big (by assumption) (Mine.p256' _) (by omega) (by k_extra "low") ?_) | (with_unfolding_all refine KTBy.to_little (by assumption) (Mine.p256' _) (by omega) (by k_extra "low") ?_)))
namespace Mine
theorem octets_ct (w : World) (V S : Nat) (v si : Int) (r : Bool) (t u : Tok) (news : List (Addr × Obj)) (e : v = (V : Int)) (es : si = (S : Int)) (hS : S ≤ 8) (hV : V < 2 ^ (8 * S)) :
    Ct w 4 (.ref 313) [.int v t, .int si u, .bool r] news (fun r' news' => ∃ b t', r' = .bytes b t' ∧ news' = news ∧ msgOf r (octs b) = V ∧ b.size = S) := by
  subst e es
  unfold Ct
  k_fill
  intro p' loose mean mg mb dp un gd cn cs a ccd cl outer A₀ base h₀ L m s Q E hB hF hK hN' hT hcs hdp hun hret
  k_dflt (refine wpAny_call ?_)
  k_dflt k_enter
  k_with_none
  have hb : brL (8 * (8 * S / 8)) V < 2 ^ (8 * S) := by rw [Nat.mul_div_cancel_left _ (by decide)]; exact brL_lt _ _
  k_with "low" => first | exact Int.ofNat_lt.mpr hV | exact Int.ofNat_lt.mpr hb
  cases r
  · k_steps
    exact hret _ _ _ _ ⟨_, _, rfl, rfl, octs_big (by assumption) hV⟩ (by assumption) (by assumption)
  · k_steps
    exact hret _ _ _ _ ⟨_, _, rfl, rfl, octs_little' (by assumption) hV⟩ (by assumption) (by assumption)
end Mine
end
section
namespace Mine
theorem bits_dg {P n : Nat} (h : Dg P n) : Builtin.Int.intBits (P : Int) = n + 1 := by
  have h1 : Builtin.Int.intBits (P : Int) ≤ n + 1 := PySem.intBits_le_iff.mpr (by simpa using h.2)
  have h2 : ¬ Builtin.Int.intBits (P : Int) ≤ n := fun hh => by
    have := PySem.intBits_le_iff.mp hh
    have := h.1
    simp at *
    omega
  omega
def RestInv (P A : Nat) (x : Int) : Prop := ∃ a : Nat, x = (a : Int) ∧ Mlt P (A ^^^ a) ∧ a < 2 ^ 200
theorem RestInv.start {P A : Nat} (h : A < 2 ^ 200) : RestInv P A (A : Int) := ⟨A, rfl, by rw [Nat.xor_self]; exact Mlt.zero P, h⟩
theorem rest_step {P n A a : Nat} (hP : Dg P n) (hc : (Builtin.Int.intBits (a : Int) : Int) ≥ Builtin.Int.intBits (P : Int)) :
    Builtin.bitXor (a : Int) ((P : Int) * 2 ^ ((Builtin.Int.intBits (a : Int) : Int) - Builtin.Int.intBits (P : Int)).toNat) = ((a ^^^ P * 2 ^ (a.log2 - n) : Nat) : Int) ∧ a ^^^ P * 2 ^ (a.log2 - n) < 2 ^ a.log2 ∧ a ≠ 0 ∧ n ≤ a.log2 := by
  rw [bits_dg hP] at hc ⊢
  have ha : a ≠ 0 := fun h => by
    subst h
    have : Builtin.Int.intBits ((0 : Nat) : Int) ≤ 0 := PySem.intBits_le_iff.mpr (by simp)
    omega
  have hd := Dg.of ha
  rw [bits_dg hd] at hc ⊢
  have hle : n ≤ a.log2 := by omega
  rw [show (((a.log2 + 1 : Nat) : Int) - ((n + 1 : Nat) : Int)).toNat = a.log2 - n by omega, shl_cast, xor_cast, Nat.shiftLeft_eq]
  have hs := hP.shl (a.log2 - n)
  rw [Nat.add_sub_cancel' hle] at hs
  exact ⟨rfl, xor_top_lt hd hs, ha, hle⟩
theorem RestInv.turn {P n A : Nat} {x : Int} (hP : Dg P n) (h : RestInv P A x) (hc : (Builtin.Int.intBits x : Int) ≥ Builtin.Int.intBits (P : Int)) :
    RestInv P A (Builtin.bitXor x ((P : Int) * 2 ^ ((Builtin.Int.intBits x : Int) - Builtin.Int.intBits (P : Int)).toNat)) := by
  obtain ⟨a, rfl, h1, h2⟩ := h
  obtain ⟨e, hlt, ha, hle⟩ := rest_step (A := A) hP hc
  refine ⟨_, e, ?_, Nat.lt_trans hlt (Nat.lt_of_le_of_lt (Nat.log2_self_le ha) h2)⟩
  have := h1.xor ((Mlt.self P).shl (a.log2 - n))
  rwa [Nat.xor_assoc] at this
theorem RestInv.less {P n A : Nat} {x : Int} (hP : Dg P n) (h : RestInv P A x) (hc : (Builtin.Int.intBits x : Int) ≥ Builtin.Int.intBits (P : Int)) :
    (Builtin.bitXor x ((P : Int) * 2 ^ ((Builtin.Int.intBits x : Int) - Builtin.Int.intBits (P : Int)).toNat)).toNat < x.toNat := by
  obtain ⟨a, rfl, h1, h2⟩ := h
  obtain ⟨e, hlt, ha, hle⟩ := rest_step (A := A) hP hc
  rw [e]
  have := Nat.log2_self_le ha
  omega
theorem RestInv.fin {P n A : Nat} {x : Int} (hP : Dg P n) (h : RestInv P A x) (hc : ¬ (Builtin.Int.intBits x : Int) ≥ Builtin.Int.intBits (P : Int)) : x = ((cmod P A : Nat) : Int) := by
  obtain ⟨a, rfl, h1, h2⟩ := h
  rw [bits_dg hP] at hc
  have h3 : Builtin.Int.intBits (a : Int) ≤ n := by omega
  have h4 := PySem.intBits_le_iff.mp h3
  rw [cmod_eq hP (by simpa using h4) h1]
theorem RestInv.bits {P n A : Nat} {x : Int} (hP : Dg P n) (h : RestInv P A x) (hn : n ≤ 200) : (Builtin.Int.intBits (P : Int) : Int) + ((Builtin.Int.intBits x : Int) - Builtin.Int.intBits (P : Int)) ≤ 2 ^ 27 := by
  obtain ⟨a, rfl, h1, h2⟩ := h
  have h3 : Builtin.Int.intBits (a : Int) ≤ 200 := PySem.intBits_le_iff.mpr (by simpa using h2)
  have e : (2 : Int) ^ 27 = 134217728 := by decide
  rw [e]; omega
theorem rest_ct (w : World) (A P n : Nat) (v b : Int) (t u : Tok) (news : List (Addr × Obj)) (e : v = (A : Int)) (eb : b = (P : Int)) (hP : Dg P n) (hn : n ≤ 200) (hA : A < 2 ^ 200) :
    Ct w 2 (.ref 327) [.int v t, .int b u] news (fun r' news' => ∃ t', r' = .int ((cmod P A : Nat) : Int) t' ∧ news' = news) := by
  subst e eb
  unfold Ct
  k_fill
  intro p' loose mean mg mb dp un gd cn cs a ccd cl outer A₀ base h₀ L m s Q E hB hF hK hN' hT hcs hdp hun hret
  k_dflt (refine wpAny_call ?_)
  k_dflt k_enter
  k_with_none
  k_with "state" => first | exact RestInv.turn hP (by assumption) (by assumption) | exact RestInv.start hA
  k_with "measure" => exact RestInv.less hP (by assumption) (by assumption)
  k_with "shl" => exact RestInv.bits hP (by assumption) hn
  k_with "shn" => (show 0 ≤ _; omega)
  k_with "exec While Compare cons nil" => k_while (fun _ x => RestInv P A x) (fun _ x => x.toNat) "a"
  k_steps
  exact hret _ _ _ _ ⟨_, congrArg (Value.int · _) (RestInv.fin hP (by assumption) (by assumption)), rfl⟩ (by assumption) (by assumption)
end Mine
end
section
namespace Mine
theorem num_ct (w : World) (v : Int) (t : Tok) (news : List (Addr × Obj)) :
    Ct w 2 (.ref 334) [.int v t] news (fun r' news' => r' = .bool true ∧ news' = news) := by
  unfold Ct
  k_fill
  intro p' loose mean mg mb dp un gd cn cs a ccd cl outer A₀ base h₀ L m s Q E hB hF hK hN' hT hcs hdp hun hret
  k_dflt (refine wpAny_call ?_)
  k_dflt k_enter
  k_with_none
  k_steps
  exact hret _ _ _ _ ⟨rfl, rfl⟩ (by assumption) (by assumption)
end Mine
end
section
namespace Mine
def WovInv (s : Nat) (f : Nat → Nat) (k : Nat) (out v p : Int) : Prop := ∃ t o x : Nat, out = (o : Int) ∧ v = (x : Int) ∧ p = ((s - 1 - k + s * t : Nat) : Int) ∧ x = f k / 2 ^ t ∧ o ||| spr s x * 2 ^ (s - 1 - k + s * t) = wor s f (k + 1)
theorem WovInv.start {s : Nat} {f : Nat → Nat} {k : Nat} {out v p : Int} (h1 : out = ((wor s f k : Nat) : Int)) (h2 : v = ((f k : Nat) : Int)) (h3 : p = ((s - 1 - k : Nat) : Int)) : WovInv s f k out v p :=
  ⟨0, wor s f k, f k, h1, h2, by simpa using h3, by simp, by simp [wor]⟩
theorem WovInv.start' {s : Nat} {rows : List Nat} {k : Nat} {out kN : Int} (h1 : out = ((wor s (fun j => rows.getD j 0) k : Nat) : Int)) (h2 : kN = 0 + (k : Int)) (h3 : k < ((s : Int) - 0).toNat) : WovInv s (fun j => rows.getD j 0) k out ((rows.map (fun x : Nat => (x : Int))).getD kN.toNat 0) ((s : Int) - 1 - kN) := by
  refine WovInv.start h1 ?_ (by omega)
  rw [getD_cast, show kN.toNat = k by omega]
theorem WovInv.fin {s : Nat} {f : Nat → Nat} {k : Nat} {out v p : Int} (h : WovInv s f k out v p) (h0 : v = 0) : out = ((wor s f (k + 1) : Nat) : Int) := by
  obtain ⟨t, o, x, rfl, rfl, rfl, hx, he⟩ := h
  have : x = 0 := by omega
  rw [this, spr_zero] at he
  simp at he
  rw [he]
theorem WovInv.yes {s : Nat} (hs : 1 ≤ s) {f : Nat → Nat} {k : Nat} {out v p : Int} {l : Int} (h : WovInv s f k out v p) (h1 : v.fmod 2 ≠ 0) (hl : l = (s : Int)) : WovInv s f k (Builtin.bitOr out (1 * 2 ^ p.toNat)) (v.fdiv 2) (p + l) := by
  obtain ⟨t, o, x, rfl, rfl, rfl, hx, he⟩ := h
  rw [show (2 : Int) = ((2 : Nat) : Int) from rfl, fmod_cast] at h1
  have hm : x % 2 = 1 := by omega
  refine ⟨t + 1, o ||| 2 ^ (s - 1 - k + s * t), x / 2, ?_, ?_, ?_, ?_, ?_⟩
  · rw [Int.one_mul, Int.toNat_natCast, pow_cast, or_cast]
  · rw [show (2 : Int) = ((2 : Nat) : Int) from rfl, fdiv_cast]
  · rw [hl, Nat.mul_succ]; omega
  · rw [hx, Nat.div_div_eq_div_mul, Nat.pow_succ]
  · rw [← he, spr_turn (v := x) hs, if_pos hm, Nat.mul_succ, Nat.add_assoc]
theorem WovInv.no {s : Nat} (hs : 1 ≤ s) {f : Nat → Nat} {k : Nat} {out v p : Int} {l : Int} (h : WovInv s f k out v p) (h1 : v.fmod 2 = 0) (hl : l = (s : Int)) : WovInv s f k out (v.fdiv 2) (p + l) := by
  obtain ⟨t, o, x, rfl, rfl, rfl, hx, he⟩ := h
  rw [show (2 : Int) = ((2 : Nat) : Int) from rfl, fmod_cast] at h1
  have hm : x % 2 = 0 := by omega
  refine ⟨t + 1, o, x / 2, rfl, ?_, ?_, ?_, ?_⟩
  · rw [show (2 : Int) = ((2 : Nat) : Int) from rfl, fdiv_cast]
  · rw [hl, Nat.mul_succ]; omega
  · rw [hx, Nat.div_div_eq_div_mul, Nat.pow_succ]
  · rw [← he, spr_turn (v := x) hs, if_neg (by omega), Nat.mul_succ, Nat.add_assoc]
theorem WovInv.less {s : Nat} {f : Nat → Nat} {k : Nat} {out v p : Int} (h : WovInv s f k out v p) (h1 : v ≠ 0) : (v.fdiv 2).toNat < v.toNat := by
  obtain ⟨t, o, x, rfl, rfl, rfl, hx, he⟩ := h
  rw [show (2 : Int) = ((2 : Nat) : Int) from rfl, fdiv_cast]
  omega
theorem WovInv.place {s : Nat} (hs : s ≤ 8) {f : Nat → Nat} {k : Nat} (hf : f k < 2 ^ 64) {out v p : Int} (h : WovInv s f k out v p) (h1 : v ≠ 0) : 0 ≤ p ∧ p ≤ 1000 := by
  obtain ⟨t, o, x, rfl, rfl, rfl, hx, he⟩ := h
  have ht : t < 64 := Nat.lt_of_not_le fun h64 => by
    have : f k < 2 ^ t := Nat.lt_of_lt_of_le hf (Nat.pow_le_pow_right (by decide) h64)
    rw [Nat.div_eq_of_lt this] at hx
    omega
  have : s * t ≤ 8 * 64 := Nat.mul_le_mul hs (by omega)
  omega
theorem WovInv.shl {s : Nat} (hs : s ≤ 8) {f : Nat → Nat} {k : Nat} (hf : f k < 2 ^ 64) {out v p : Int} (h : WovInv s f k out v p) (h1 : v ≠ 0) : (Builtin.Int.intBits 1 : Int) + p ≤ 2 ^ 27 := shl_bits (y := 1) (k := 1) (by decide) (by decide) (h.place hs hf h1).2
theorem WovInv.shn {s : Nat} (hs : s ≤ 8) {f : Nat → Nat} {k : Nat} (hf : f k < 2 ^ 64) {out v p : Int} (h : WovInv s f k out v p) (h1 : v ≠ 0) : 0 ≤ p := (h.place hs hf h1).1
end Mine
local macro_rules | `(tactic| walk_at "call builtin:len") => `(tactic| (k_here; (with_reducible show wpAny _ _ (call (Value.builtin "len") [Value.ref _]) _ _ _); k_dflt (refine' kun_lenL ?k1 ?k2 ?k3 ?_; (case k1 => exact News.isList (by k_asm) (by k_extra "rowsM")); (case k2 => exact congrArg (Nat.cast (R := Int)) (by k_extra "rowsL")); (case k3 => omega); k_whole)))
local macro_rules | `(tactic| walk_at "subscriptTail") => `(tactic| (k_here; (with_reducible show wpAny _ _ (subscriptTail _ _ (Value.ref _) (Value.int _ _)) _ _ _); k_dflt (refine' Mine.tab_item ?N ?m ?I ?b ?l ?_; (case N => k_asm); (case m => k_extra "rowsM"); (case I => assumption); (case b => k_extra "idx"); (case l => omega)); intro t9; (try dsimp only)))
namespace Mine
theorem woven_ct (w : World) (l0 : Addr) (vs : List Value) (rows : List Nat) (nn s : Nat) (news : List (Addr × Obj)) (hm : (l0, PySem.W.listOf vs.toArray nn) ∈ news) (hI : IntsAre vs (rows.map (fun x : Nat => (x : Int)))) (hl : rows.length = s) (h1 : 1 ≤ s) (h8 : s ≤ 8) (hr : ∀ x ∈ rows, x < 2 ^ 64) :
    Ct w 2 (.ref 320) [.ref l0] news (fun r' news' => ∃ t', r' = .int ((wor s (fun j => rows.getD j 0) s : Nat) : Int) t' ∧ news' = news) := by
  unfold Ct
  k_fill
  intro p' loose mean mg mb dp un gd cn cs a ccd cl outer A₀ base h₀ L m sh Q E hB hF hK hN' hT hcs hdp hun hret
  have hvl : vs.length = s := by have := IntsAre.len hI; rw [List.length_map] at this; omega
  have hml : (rows.map (fun x : Nat => (x : Int))).length = s := by rw [List.length_map]; exact hl
  have hr' : ∀ k, rows.getD k 0 < 2 ^ 64 := fun k => by
    rw [List.getD_eq_getElem?_getD]
    cases e : rows[k]? with
    | none => exact Nat.two_pow_pos 64
    | some x => exact hr x (List.mem_of_getElem? e)
  k_dflt (refine wpAny_call ?_)
  k_dflt k_enter
  k_with_none
  k_with "rowsM" => first | assumption | exact List.mem_append_left _ (by assumption)
  k_with "rowsL" => first | (simpa using hvl) | exact hvl
  k_with "idx" => omega
  k_with "state" => first | exact WovInv.start' (by assumption) (by assumption) (by assumption) | exact WovInv.yes h1 (by assumption) (by assumption) rfl | exact WovInv.no h1 (by assumption) (by assumption) rfl | exact (WovInv.fin (by assumption) (by assumption)).trans (by simp)
  k_with "measure" => exact WovInv.less (by assumption) (by assumption)
  k_with "pyIter ref" => k_state (fun (pre : List Int) (out : Int) => out = ((wor s (fun j => rows.getD j 0) pre.length : Nat) : Int)) "out"
  k_with "exec While Name cons nil" => (rename List Int => pr9; k_while (fun _ o v p => WovInv s (fun j => rows.getD j 0) pr9.length o v p) (fun _ _ v _ => v.toNat) "out" "value" "place")
  repeat' ((fail_if_success (with_reducible show wpAny _ _ (pyIter (Value.ref _)) _ _ _)); walk1)
  k_state (fun (pre : List Int) (out : Int) => out = ((wor s (fun j => rows.getD j 0) pre.length : Nat) : Int)) "out"
  · rename List Int => pr9
    repeat' ((fail_if_success (with_reducible show wpAny _ _ (exec (Stmt.While _ _ _ _) _) _ _ _)); walk1)
    k_while (fun _ o v p => WovInv s (fun j => rows.getD j 0) pr9.length o v p) (fun _ _ v _ => v.toNat) "out" "value" "place"
    k_with "shn" => exact WovInv.shn (f := fun j => rows.getD j 0) h8 (hr' _) (by assumption) (by assumption)
    k_with "shl" => exact WovInv.shl (f := fun j => rows.getD j 0) h8 (hr' _) (by assumption) (by assumption)
    k_steps
  · k_steps
    refine hret _ _ _ _ ⟨_, congrArg (Value.int · _) ?_, rfl⟩ (by assumption) (by assumption)
    rename (_ = ((wor s _ _ : Nat) : Int)) => ki9
    rw [ki9, rangeKs_length, show ((s : Int) - 0).toNat = s by omega]
end Mine
end
section
namespace Mine
def smP (i : Nat) : Nat := [8, 8, 8, 8, 16, 16, 32].getD i 0
def lnP (i : Nat) : Nat := [2, 3, 4, 8, 2, 4, 2].getD i 0
/-- the lanes' degree, and how many lanes -/
def SL (sm ln : Nat) : Prop := (sm = 8 ∧ ln = 2) ∨ (sm = 8 ∧ ln = 3) ∨ (sm = 8 ∧ ln = 4) ∨ (sm = 8 ∧ ln = 8) ∨ (sm = 16 ∧ ln = 2) ∨ (sm = 16 ∧ ln = 4) ∨ (sm = 32 ∧ ln = 2)
theorem SL.bnd {sm ln : Nat} (h : SL sm ln) : 8 ≤ sm ∧ sm ≤ 32 ∧ 2 ≤ ln ∧ ln ≤ 8 ∧ sm * ln ≤ 64 ∧ 1 ≤ 8 / ln ∧ ln * (8 / ln) ≤ 8 ∧ 8 * (sm / 8) = sm ∧ 8 * (sm * ln / 8) = sm * ln := by
  rcases h with ⟨rfl, rfl⟩ | ⟨rfl, rfl⟩ | ⟨rfl, rfl⟩ | ⟨rfl, rfl⟩ | ⟨rfl, rfl⟩ | ⟨rfl, rfl⟩ | ⟨rfl, rfl⟩ <;> decide
theorem SL.ok {sm ln : Nat} (h : SL sm ln) : SizeOk sm ∧ SizeOk (sm * ln) := by
  rcases h with ⟨rfl, rfl⟩ | ⟨rfl, rfl⟩ | ⟨rfl, rfl⟩ | ⟨rfl, rfl⟩ | ⟨rfl, rfl⟩ | ⟨rfl, rfl⟩ | ⟨rfl, rfl⟩ <;> (unfold SizeOk; decide)
theorem fmod_pow (v : Int) (n : Nat) : ∃ x : Nat, v.fmod (2 ^ ((n : Int)).toNat) = (x : Int) ∧ x < 2 ^ n := by
  have hp : (0 : Int) < 2 ^ n := Int.pow_pos (by decide)
  rw [Int.toNat_natCast]
  have h0 := Int.fmod_nonneg_of_pos v hp
  have h1 := Int.fmod_lt_of_pos v hp
  refine ⟨(v.fmod (2 ^ n)).toNat, by omega, ?_⟩
  have : ((v.fmod (2 ^ n)).toNat : Int) < ((2 ^ n : Nat) : Int) := by rw [Int.toNat_of_nonneg h0, ← pow_cast]; exact h1
  exact Int.ofNat_lt.mp this
theorem poly_ex {v p : Int} {n : Nat} (h : Builtin.bitOr (1 * 2 ^ ((n : Int)).toNat) (v.fmod (2 ^ ((n : Int)).toNat)) = p) : ∃ P : Nat, p = (P : Int) ∧ Dg P n := by
  obtain ⟨x, e, hx⟩ := fmod_pow v n
  rw [e, Int.one_mul, Int.toNat_natCast, pow_cast, or_cast] at h
  refine ⟨2 ^ n ||| x, h.symm, ?_⟩
  have h1 := or_add_and (2 ^ n) x
  have h2 := xor_add_and (2 ^ n) x
  have h3 := add_eq_xor (a := 1) hx
  rw [Nat.one_mul] at h3
  have : 2 ^ n ||| x = 2 ^ n + x := by omega
  rw [this, Dg, Nat.pow_succ]
  omega
theorem SL.div {sm ln : Nat} (h : SL sm ln) : Int.fdiv 8 (ln : Int) ≠ 0 := by
  have := h.bnd
  rw [show (8 : Int) = ((8 : Nat) : Int) from rfl, fdiv_cast]
  omega
theorem len_ex {v l : Int} {sm ln : Nat} (hs : SL sm ln) (h : 1 + v.fmod (Int.fdiv 8 (ln : Int)) = l) : ∃ len : Nat, l = (len : Int) ∧ 1 ≤ len ∧ len ≤ 4 ∧ len * ln ≤ 8 := by
  have hb := hs.bnd
  rw [show (8 : Int) = ((8 : Nat) : Int) from rfl, fdiv_cast] at h
  have hp : (0 : Int) < ((8 / ln : Nat) : Int) := by omega
  have h0 := Int.fmod_nonneg_of_pos v hp
  have h1 := Int.fmod_lt_of_pos v hp
  obtain ⟨x, hx⟩ := Int.eq_ofNat_of_zero_le h0
  rw [hx] at h h1
  have hx8 : 1 + x ≤ 8 / ln := by omega
  have h3 : ln * (1 + x) ≤ ln * (8 / ln) := Nat.mul_le_mul_left _ hx8
  refine ⟨1 + x, by omega, by omega, ?_, by rw [Nat.mul_comm]; omega⟩
  have h4 : 2 * (1 + x) ≤ ln * (1 + x) := Nat.mul_le_mul_right _ hb.2.2.1
  omega
theorem rem_ex {v l : Int} {n : Nat} (h : v.fmod (2 ^ ((n : Int)).toNat) = l) : ∃ x : Nat, l = (x : Int) ∧ x < 2 ^ n := by
  obtain ⟨x, e, hx⟩ := fmod_pow v n
  exact ⟨x, by rw [← h, e], hx⟩
theorem ints_nat {ys : List Value} {n sm : Nat} {g : Int → Int} (h : IntsAre ys (List.map (fun k => (g k).fmod (2 ^ ((sm : Int)).toNat)) (rangeKs 0 ((n : Int) - 0).toNat))) : ∃ l : List Nat, IntsAre ys (l.map (fun x : Nat => (x : Int))) ∧ l.length = n ∧ ∀ x ∈ l, x < 2 ^ sm := by
  refine ⟨(rangeKs 0 ((n : Int) - 0).toNat).map fun k => ((g k).fmod (2 ^ ((sm : Int)).toNat)).toNat, ?_, ?_, ?_⟩
  · rw [List.map_map]
    have e : (fun k => (g k).fmod (2 ^ ((sm : Int)).toNat)) = ((fun x : Nat => (x : Int)) ∘ fun k => ((g k).fmod (2 ^ ((sm : Int)).toNat)).toNat) := by
      funext k
      obtain ⟨x, hx, _⟩ := fmod_pow (g k) sm
      show _ = (((((g k).fmod (2 ^ ((sm : Int)).toNat)).toNat : Nat)) : Int)
      rw [hx, Int.toNat_natCast]
    rw [← e]; exact h
  · rw [List.length_map, rangeKs_length]; omega
  · intro x hx
    obtain ⟨k, _, rfl⟩ := List.mem_map.mp hx
    obtain ⟨x, hx, hlt⟩ := fmod_pow (g k) sm
    rw [hx, Int.toNat_natCast]; exact hlt
theorem ints_nat8 {ys : List Value} {n len : Nat} {g : Int → Int} (h : IntsAre ys (List.map (fun k => (g k).fmod (2 ^ (8 * (len : Int)).toNat)) (rangeKs 0 ((n : Int) - 0).toNat))) : ∃ l : List Nat, IntsAre ys (l.map (fun x : Nat => (x : Int))) ∧ l.length = n ∧ ∀ x ∈ l, x < 2 ^ (8 * len) := by
  refine ints_nat (g := g) ?_
  have e : (8 * (len : Int)).toNat = (((8 * len : Nat) : Int)).toNat := by omega
  rw [← e]; exact h
theorem perm_whole {h₀ h : Heap} {L : Addr} {a1 a2 a3 a4 a5 a6 l3 x y z m1 m2 c1 c2 c3 : Addr × Obj} {own : List (Addr × Obj)} (N : News h₀ L h (a1 :: a2 :: a3 :: a4 :: a5 :: a6 :: l3 :: x :: y :: z :: m1 :: m2 :: c1 :: c2 :: c3 :: own)) : News h₀ L h (x :: y :: z :: ([l3, c1, c2, c3] ++ own)) := fun p hp => N p (by
  simp only [List.mem_cons, List.mem_append, List.not_mem_nil, or_false] at hp ⊢
  rcases hp with hp | hp | hp | (hp | hp | hp | hp) | hp <;> simp only [hp, true_or, or_true])
theorem perm_told {h₀ h : Heap} {L : Addr} {a b c d e x y z : Addr × Obj} (N : News h₀ L h (a :: b :: c :: d :: e :: y :: x :: z :: [])) : News h₀ L h (x :: y :: z :: ([a, b, c, d, e] ++ [])) := fun p hp => N p (by
  simp only [List.mem_cons, List.mem_append, List.not_mem_nil, or_false] at hp ⊢
  rcases hp with hp | hp | hp | hp | hp | hp | hp | hp <;> simp only [hp, true_or, or_true])
theorem mskN_id {x N : Nat} (h : x < 2 ^ N) : mskN (x : Int) N = x := by
  unfold mskN
  rw [pow_cast, ← Int.natCast_emod, Nat.mod_eq_of_lt h, Int.toNat_natCast]
theorem getD_lt {l : List Nat} {B : Nat} (h : ∀ x ∈ l, x < 2 ^ B) (k : Nat) : l.getD k 0 < 2 ^ B := by
  rw [List.getD_eq_getElem?_getD]
  cases e : l[k]? with
  | none => exact Nat.two_pow_pos B
  | some x => exact h x (List.mem_of_getElem? e)
/-- the sum of one lane -/
noncomputable def sumL (P sm len la f m : Nat) : Nat := la ^^^ cmod P ((la ^^^ f) * 2 ^ (8 * len) ^^^ m * 2 ^ sm)
theorem shl_xor {a b B : Nat} {n : Int} (ha : a < 2 ^ B) (hb : b < 2 ^ B) (hB : B ≤ 1000) (hn : n ≤ 1000) : (Builtin.Int.intBits (Builtin.bitXor (a : Int) (b : Int)) : Int) + n ≤ 2 ^ 27 := by
  rw [xor_cast]; exact shl_bits (Nat.xor_lt_two_pow ha hb) hB hn
theorem rest_arg (f la m len sm : Nat) : Builtin.bitXor ((Builtin.bitXor (f : Int) (la : Int)) * 2 ^ (8 * (len : Int)).toNat) ((m : Int) * 2 ^ ((sm : Int)).toNat) = (((la ^^^ f) * 2 ^ (8 * len) ^^^ m * 2 ^ sm : Nat) : Int) := by
  rw [show (8 * (len : Int)).toNat = 8 * len by omega, Int.toNat_natCast, xor_cast, shl_cast, shl_cast, xor_cast, Nat.shiftLeft_eq, Nat.shiftLeft_eq, Nat.xor_comm f la]
theorem rest_arg_lt {f la m len sm : Nat} (hf : f < 2 ^ sm) (hl : la < 2 ^ sm) (hm : m < 2 ^ (8 * len)) (h1 : sm ≤ 32) (h2 : len ≤ 8) : (la ^^^ f) * 2 ^ (8 * len) ^^^ m * 2 ^ sm < 2 ^ 200 := by
  have e1 : (la ^^^ f) * 2 ^ (8 * len) < 2 ^ (sm + 8 * len) := by rw [Nat.pow_add]; exact Nat.mul_lt_mul_of_pos_right (Nat.xor_lt_two_pow hl hf) (Nat.two_pow_pos _)
  have e2 : m * 2 ^ sm < 2 ^ (sm + 8 * len) := by rw [Nat.add_comm, Nat.pow_add]; exact Nat.mul_lt_mul_of_pos_right hm (Nat.two_pow_pos _)
  exact Nat.lt_of_lt_of_le (Nat.xor_lt_two_pow e1 e2) (Nat.pow_le_pow_right (by decide) (by omega))
theorem rest_res (P sm len la f m : Nat) : Builtin.bitXor ((cmod P ((la ^^^ f) * 2 ^ (8 * len) ^^^ m * 2 ^ sm) : Nat) : Int) (la : Int) = ((sumL P sm len la f m : Nat) : Int) := by
  rw [xor_cast, Nat.xor_comm]; rfl
theorem sum_state {P sm len la : Nat} {fl ml : List Nat} {pre s : List Int} {k : Int} (h : s = pre.map (fun k => ((sumL P sm len la (fl.getD k.toNat 0) (ml.getD k.toNat 0) : Nat) : Int))) :
    s ++ [Builtin.bitXor ((cmod P ((la ^^^ fl.getD k.toNat 0) * 2 ^ (8 * len) ^^^ ml.getD k.toNat 0 * 2 ^ sm) : Nat) : Int) (la : Int)] = (pre ++ [k]).map (fun k => ((sumL P sm len la (fl.getD k.toNat 0) (ml.getD k.toNat 0) : Nat) : Int)) := by
  rw [h, rest_res, List.map_append]; rfl
theorem app_all {l' : Addr} {c1 c2 c3 c4 c5 c6 c7 c8 : Addr × Obj} {own kOwn : List (Addr × Obj)} {offs : List Addr} (h : c1.1 < l' ∧ c2.1 < l' ∧ c3.1 < l' ∧ c4.1 < l' ∧ c5.1 < l' ∧ c6.1 < l' ∧ c7.1 < l' ∧ c8.1 < l' ∧ AllLt l' own) (ho : OwnOff kOwn (l' :: offs)) :
    ∀ p ∈ c1 :: c2 :: c3 :: c4 :: c5 :: c6 :: c7 :: c8 :: (own ++ kOwn), p.1 ≠ l' := by
  obtain ⟨h1, h2, h3, h4, h5, h6, h7, h8, h9⟩ := h
  intro p hp
  simp only [List.mem_cons, List.mem_append] at hp
  rcases hp with rfl | rfl | rfl | rfl | rfl | rfl | rfl | rfl | hp | hp
  · exact Nat.ne_of_lt h1
  · exact Nat.ne_of_lt h2
  · exact Nat.ne_of_lt h3
  · exact Nat.ne_of_lt h4
  · exact Nat.ne_of_lt h5
  · exact Nat.ne_of_lt h6
  · exact Nat.ne_of_lt h7
  · exact Nat.ne_of_lt h8
  · exact Nat.ne_of_lt (lt_of_all h9 p hp)
  · exact ho p hp _ (.head _)
theorem app_size {vs : List Value} {s pre : List Int} {g : Int → Int} {n : Nat} (h : IntsAre vs s) (e : s = pre.map g) (hl : pre.length < ((n : Int) - 0).toNat) (hn : n ≤ 8) : vs.toArray.size ≤ sizeLine := by
  have h1 := IntsAre.len h
  rw [e, List.length_map] at h1
  rw [List.size_toArray, PySem.sizeLine_eq]
  omega
theorem ints_sums {us : List Value} {n : Nat} (G : Nat → Nat) (h : IntsAre us ((rangeKs 0 ((n : Int) - 0).toNat).map (fun k => ((G k.toNat : Nat) : Int)))) : ∃ l : List Nat, IntsAre us (l.map (fun x : Nat => (x : Int))) ∧ l.length = n ∧ ∀ j, j < n → l.getD j 0 = G j := by
  have hn : ((n : Int) - 0).toNat = n := by omega
  rw [hn] at h
  refine ⟨(List.range n).map G, ?_, by simp, fun j hj => ?_⟩
  · have e : (rangeKs 0 n).map (fun k => ((G k.toNat : Nat) : Int)) = ((List.range n).map G).map (fun x : Nat => (x : Int)) := by
      unfold rangeKs
      rw [List.map_map, List.map_map]
      refine List.map_congr_left fun i _ => ?_
      simp
    rw [← e]; exact h
  · rw [List.getD_eq_getElem?_getD, List.getElem?_map, List.getElem?_range hj]; rfl
def wl (ln P : Nat) : List Nat := List.replicate (ln - 1) 0 ++ [P]
theorem wl_len {ln P : Nat} (h : 1 ≤ ln) : (wl ln P).length = ln := by unfold wl; simp; omega
theorem wl_lt {ln P B : Nat} (h : P < 2 ^ B) : ∀ x ∈ wl ln P, x < 2 ^ B := by
  intro x hx
  unfold wl at hx
  rcases List.mem_append.mp hx with hx | hx
  · rw [(List.mem_replicate.mp hx).2]; exact Nat.two_pow_pos B
  · rw [List.mem_singleton.mp hx]; exact h
theorem ints_wide {ws : List Value} {ln P : Nat} (h : IntsAre ws ((List.replicate ((ln : Int) - 1).toNat [(0 : Int)]).flatten ++ [(P : Int)])) : IntsAre ws ((wl ln P).map (fun x : Nat => (x : Int))) := by
  have e : (List.replicate ((ln : Int) - 1).toNat [(0 : Int)]).flatten ++ [(P : Int)] = (wl ln P).map (fun x : Nat => (x : Int)) := by
    unfold wl
    rw [List.map_append, show ((ln : Int) - 1).toNat = ln - 1 by omega]
    congr 1
    generalize ln - 1 = k
    induction k with
    | zero => rfl
    | succ k ih => rw [List.replicate_succ, List.flatten_cons, ih, List.replicate_succ]; rfl
  rw [← e]; exact h
theorem wide_eq {ln P : Nat} (h : 1 ≤ ln) : wor ln (fun j => (wl ln P).getD j 0) ln = spr ln P := by
  rw [wor_eq h, wov_last h]
  · unfold wl
    congr 1
    rw [List.getD_eq_getElem?_getD, List.getElem?_append_right (by simp)]
    simp
  · intro j hj
    unfold wl
    rw [List.getD_eq_getElem?_getD, List.getElem?_append_left (by simpa using hj), List.getElem?_replicate_of_lt hj]
    rfl
theorem wor_lt' {ln B : Nat} {l : List Nat} (h1 : 1 ≤ ln) (h : ∀ x ∈ l, x < 2 ^ B) : wor ln (fun j => l.getD j 0) ln < 2 ^ (ln * B) := by
  rw [wor_eq h1]
  exact wov_lt h1 fun j _ => getD_lt h j
theorem wor_oct {ln len : Nat} {l : List Nat} (h1 : 1 ≤ ln) (h : ∀ x ∈ l, x < 2 ^ (8 * len)) : wor ln (fun j => l.getD j 0) ln < 2 ^ (8 * (len * ln)) := by
  have := wor_lt' h1 h
  rwa [show ln * (8 * len) = 8 * (len * ln) by rw [Nat.mul_left_comm, Nat.mul_comm ln len]] at this
theorem woven_ct2 (w : World) (l0 : Addr) (vs : List Value) (rows : List Nat) (nn : Nat) (news : List (Addr × Obj)) (hm : (l0, PySem.W.listOf vs.toArray nn) ∈ news) (hI : IntsAre vs (rows.map (fun x : Nat => (x : Int)))) (h : 1 ≤ rows.length ∧ rows.length ≤ 8) (hr : ∀ x ∈ rows, x < 2 ^ 64) :
    Ct w 2 (.ref 320) [.ref l0] news (fun r' news' => ∃ t', r' = .int ((wor rows.length (fun j => rows.getD j 0) rows.length : Nat) : Int) t' ∧ news' = news) :=
  woven_ct w l0 vs rows nn rows.length news hm hI rfl h.1 h.2 hr
theorem ints_rep {vs : List Value} {ln la : Nat} (h : IntsAre vs (List.replicate ((ln : Int)).toNat [(la : Int)]).flatten) : IntsAre vs ((List.replicate ln la).map (fun x : Nat => (x : Int))) := by
  have e : (List.replicate ((ln : Int)).toNat [(la : Int)]).flatten = (List.replicate ln la).map (fun x : Nat => (x : Int)) := by
    rw [Int.toNat_natCast]
    clear h
    induction ln with
    | zero => rfl
    | succ k ih => rw [List.replicate_succ, List.flatten_cons, ih, List.replicate_succ]; rfl
  rw [← e]; exact h
theorem rep_eq (ln la : Nat) : wor ln (fun j => (List.replicate ln la).getD j 0) ln = wor ln (fun _ => la) ln :=
  wor_congr ln fun j hj => by
    show (List.replicate ln la).getD j 0 = la
    rw [List.getD_eq_getElem?_getD, List.getElem?_replicate_of_lt hj]; rfl
theorem tab_itemN {prog : Program} {w : World} {A : Around} {E : Value → Shared → Prop} {s : Shared} {h₀ : Heap} {L tb : Addr} {news : List (Addr × Obj)} {vr : List Value} {l : List Nat} {nn : Nat} {value slice : Expr} {i : Int} {u : Tok} {Q : Value → Shared → Prop}
    (N : News h₀ L s.heap news) (hm : (tb, PySem.W.listOf vr.toArray nn) ∈ news) (hI : IntsAre vr (l.map (fun x : Nat => (x : Int)))) (hb : 0 ≤ i ∧ i < (l.length : Int)) (hl : l.length < 2 ^ 60) (h : ∀ t', Q (.int ((l.getD i.toNat 0 : Nat) : Int) t') s)
    (hs : subscripted slice false (.ref tb) (.int i u) = operate [.ref tb, .int i u] (getItem (.ref tb) (.int i u)) := by with_unfolding_all rfl) :
    wpAny (model prog w) A (subscriptTail value slice (.ref tb) (.int i u)) Q E s :=
  tab_item N hm hI (by rw [List.length_map]; exact hb) (by rw [List.length_map]; exact hl) (fun t' => by rw [getD_cast]; exact h t') hs
theorem stepG_lt {n : Nat} {r : Bool} {P : Nat} (hn : 8 ≤ n) : ∀ c, c < 2 ^ n → ∀ x, stepG n r P c x < 2 ^ n := by
  intro c hc x
  cases r
  · exact stepF_lt TabLt_F
  · exact stepR_lt (TabLt_R hn) hc
theorem stepAny_G (n : Nat) (r : Bool) (P : Nat) : stepAny n r (tabPN r P n) = stepG n r P := by cases r <;> rfl
theorem foldG_lt {n : Nat} {r : Bool} {P : Nat} (hn : 8 ≤ n) : ∀ (l : List Nat) (c : Nat), c < 2 ^ n → l.foldl (stepG n r P) c < 2 ^ n
  | [], c, h => h
  | x :: l, c, h => by rw [List.foldl_cons]; exact foldG_lt hn l _ (stepG_lt hn c h x)
/-- what a sum tells, by long division -/
theorem crc_told {n P : Nat} (r : Bool) (hP : Dg P n) (hn : 8 ≤ n) {x c : Nat} (hx : x < 2 ^ n) (hc : c < 2 ^ n) (b : Array UInt8) :
    crcVal n r (tabPN r P n) (lay r n x) (lay r n c) b = lay r n (x ^^^ cmod P ((x ^^^ c) * 2 ^ (8 * b.size) ^^^ msgOf r (octs b) * 2 ^ n)) := by
  unfold crcVal
  rw [stepAny_G, ← lay_xor r n x c]
  have hxc : x ^^^ c < 2 ^ n := Nat.xor_lt_two_pow hx hc
  have h := foldG (P := P) r hP hn (octs b) (lay r n (x ^^^ c)) (x ^^^ c) (stepG_lt hn) (octs_lt b) (lay_lt hxc) (by rw [lay_lay hxc, cmod_small hP hxc])
  rw [octs_length] at h
  have h2 := lay_lay (r := r) (foldG_lt (r := r) (P := P) hn (octs b) _ (lay_lt (r := r) hxc))
  rw [h] at h2
  rw [lay_xor r n x (cmod _ _), h2]
theorem told_val {n P : Nat} {r : Bool} (hP : Dg P n) (hn : 8 ≤ n) {la f m len : Nat} (hx : la < 2 ^ n) (hc : f < 2 ^ n) {b : Array UInt8} (hb : msgOf r (octs b) = m ∧ b.size = len) :
    crcVal n r (tabPN r P n) (lay r n la) (lay r n f) b = lay r n (sumL P n len la f m) := by
  rw [crc_told r hP hn hx hc, hb.1, hb.2]; rfl
def PairAt (w : World) (a : Addr) (sm ln : Nat) (t u : Tok) : Prop := ∃ lo, (Mine.hd.heap_39 w.params).lookup a = some lo ∧ lo.cls = .type "tuple" ∧ lo.data = .seq #[.int (sm : Int) t, .int (ln : Int) u] 0
theorem pairAt0 (w : World) : PairAt w 277 8 2 650 651 := ⟨⟨.type "tuple", none, .seq #[.int 8 650, .int 2 651] 0, #[]⟩, by kernel_rfl, rfl, rfl⟩
theorem pairAt1 (w : World) : PairAt w 278 8 3 652 653 := ⟨⟨.type "tuple", none, .seq #[.int 8 652, .int 3 653] 0, #[]⟩, by kernel_rfl, rfl, rfl⟩
theorem pairAt2 (w : World) : PairAt w 279 8 4 654 655 := ⟨⟨.type "tuple", none, .seq #[.int 8 654, .int 4 655] 0, #[]⟩, by kernel_rfl, rfl, rfl⟩
theorem pairAt3 (w : World) : PairAt w 280 8 8 656 657 := ⟨⟨.type "tuple", none, .seq #[.int 8 656, .int 8 657] 0, #[]⟩, by kernel_rfl, rfl, rfl⟩
theorem pairAt4 (w : World) : PairAt w 281 16 2 658 659 := ⟨⟨.type "tuple", none, .seq #[.int 16 658, .int 2 659] 0, #[]⟩, by kernel_rfl, rfl, rfl⟩
theorem pairAt5 (w : World) : PairAt w 282 16 4 660 661 := ⟨⟨.type "tuple", none, .seq #[.int 16 660, .int 4 661] 0, #[]⟩, by kernel_rfl, rfl, rfl⟩
theorem pairAt6 (w : World) : PairAt w 283 32 2 662 663 := ⟨⟨.type "tuple", none, .seq #[.int 32 662, .int 2 663] 0, #[]⟩, by kernel_rfl, rfl, rfl⟩
theorem pairAt (w : World) {i : Nat} (h : i < 7) : PairAt w (277 + i) (smP i) (lnP i) (650 + 2 * i) (651 + 2 * i) ∧ SL (smP i) (lnP i) := by
  have : i = 0 ∨ i = 1 ∨ i = 2 ∨ i = 3 ∨ i = 4 ∨ i = 5 ∨ i = 6 := by omega
  rcases this with rfl | rfl | rfl | rfl | rfl | rfl | rfl
  · exact ⟨pairAt0 w, by unfold SL; decide⟩
  · exact ⟨pairAt1 w, by unfold SL; decide⟩
  · exact ⟨pairAt2 w, by unfold SL; decide⟩
  · exact ⟨pairAt3 w, by unfold SL; decide⟩
  · exact ⟨pairAt4 w, by unfold SL; decide⟩
  · exact ⟨pairAt5 w, by unfold SL; decide⟩
  · exact ⟨pairAt6 w, by unfold SL; decide⟩
theorem pair_item {w : World} {A : Around} {E : Value → Shared → Prop} {s : Shared} {h₀ : Heap} {L : Addr} {m : Str → Option Value} {value slice : Expr} {k : Int} {t : Tok} {Q : Value → Shared → Prop}
    (F : Fr h₀ L s.heap m) (X₀ : (Mine.hd.heap_39 w.params).In h₀) (h0 : 0 ≤ k) (h7 : k < 7) (h : ∀ a sm ln t u, PairAt w a sm ln t u → SL sm ln → Q (.ref a) s)
    (hs : subscripted slice false (.ref 284) (.int k t) = operate [.ref 284, .int k t] (getItem (.ref 284) (.int k t)) := by with_unfolding_all rfl) :
    wpAny (model PySem.Challenge.rw_aa5007_03.row.prog w) A (subscriptTail value slice (.ref 284) (.int k t)) Q E s := by
  obtain ⟨n, rfl⟩ := Int.eq_ofNat_of_zero_le h0
  have hn : n < 7 := by omega
  have hp := pairAt w hn
  revert F X₀ h hs
  k_fill
  intro F X₀ h hs
  refine item_tupleT (tupK (l := [.ref 277, .ref 278, .ref 279, .ref 280, .ref 281, .ref 282, .ref 283]) (X₀.keeps F.keep) (by k_is)) (by omega) (by omega) (StrLaws.seqIndex_nonneg h0 (by simp; omega)) (x := .ref (277 + n)) ?_ (h _ _ _ _ _ hp.1 hp.2) hs
  have : n = 0 ∨ n = 1 ∨ n = 2 ∨ n = 3 ∨ n = 4 ∨ n = 5 ∨ n = 6 := by omega
  rcases this with rfl | rfl | rfl | rfl | rfl | rfl | rfl <;> rfl
theorem pair_unpack {w : World} {A : Around} {E : Value → Shared → Prop} {s : Shared} {h₀ : Heap} {L : Addr} {m : Str → Option Value} {news : List (Addr × Obj)} {env : Env} {elts : List Expr} {k} {pos : Pos} {a : Addr} {sm ln : Nat} {t u : Tok} {Q : Unit → Shared → Prop} (hp : PairAt w a sm ln t u) (F : Fr h₀ L s.heap m) (N : News h₀ L s.heap news) (X₀ : (Mine.hd.heap_39 w.params).In h₀)
    (hh : A.handled = none) (hn : (assignEach elts env).length = 2) (hstar : (assignEach elts env).findIdx? (·.1) = none)
    (h : ∀ h', Fr h₀ L h' m → News h₀ L h' news → wpAny (model PySem.Challenge.rw_aa5007_03.row.prog w) A (assignInOrder ((assignEach elts env).map (·.2)) [.int (sm : Int) t, .int (ln : Int) u]) Q E { s with heap := h' }) :
    wpAny (model PySem.Challenge.rw_aa5007_03.row.prog w) A (assign (.Tuple elts k pos) env (.ref a)) Q E s := by
  obtain ⟨lo, h1, h2, h3⟩ := hp
  exact unpackK F N X₀ h1 h2 h3 hh hn hstar h
end Mine
end
section
namespace Mine
theorem crc_two {n : Nat} {r : Bool} {tab : List Nat} {x c : Nat} {b b1 b2 : Array UInt8} (h : octs b = octs b1 ++ octs b2) : crcVal n r tab x (crcVal n r tab x c b1) b2 = crcVal n r tab x c b := by
  unfold crcVal
  rw [xor_cancel, h, List.foldl_append]
theorem crcVal_lt {n P : Nat} {r : Bool} (hn : 8 ≤ n) {x c : Nat} (hx : x < 2 ^ n) (hc : c < 2 ^ n) (b : Array UInt8) : crcVal n r (tabPN r P n) x c b < 2 ^ n := by
  unfold crcVal
  rw [stepAny_G]
  exact Nat.xor_lt_two_pow hx (foldG_lt hn _ _ (Nat.xor_lt_two_pow hx hc))
/-- the woven sum -/
theorem whole_val {sm ln len P la : Nat} {r : Bool} {fl ml sl : List Nat} {b : Array UInt8} (hs : 1 ≤ ln) (hn : 8 ≤ sm * ln) (hP : Dg P sm) (hla : la < 2 ^ sm) (hfl : ∀ x ∈ fl, x < 2 ^ sm)
    (hb : msgOf r (octs b) = wor ln (fun j => ml.getD j 0) ln ∧ b.size = len * ln) (hsl : ∀ j, j < ln → sl.getD j 0 = sumL P sm len la (fl.getD j 0) (ml.getD j 0)) :
    crcVal (sm * ln) r (tabPN r (spr ln P) (sm * ln)) (lay r (sm * ln) (wor ln (fun _ => la) ln)) (lay r (sm * ln) (wor ln (fun j => fl.getD j 0) ln)) b = lay r (sm * ln) (wor ln (fun j => sl.getD j 0) ln) := by
  have hdW : Dg (spr ln P) (sm * ln) := by rw [Nat.mul_comm]; exact spr_dg hs sm P hP
  have hlw : wor ln (fun _ => la) ln < 2 ^ (sm * ln) := by rw [wor_eq hs, Nat.mul_comm]; exact wov_lt hs fun _ _ => hla
  have hfw : wor ln (fun j => fl.getD j 0) ln < 2 ^ (sm * ln) := by rw [Nat.mul_comm]; exact wor_lt' hs hfl
  rw [crc_told r hdW hn hlw hfw, hb.1, hb.2]
  congr 1
  rw [wor_eq hs, wor_eq hs, wor_eq hs, wor_eq hs, show 8 * (len * ln) = ln * (8 * len) by rw [Nat.mul_left_comm ln 8 len, Nat.mul_comm ln len], Nat.mul_comm sm ln, weave_law hs hP]
  exact (wov_congr ln fun j hj => by rw [hsl j hj]; rfl).symm
section
variable {w : World} {es : List DictEntry} {N i x P : Nat} {rev : Bool} {f tb : Addr} {val : Nat}
theorem CrcAB.mUpd (h : CrcAB w es N i x P rev f tb val) : getL (Str.ofString "update") es = some none := by
  rcases h with ⟨_, _, _, _, _, _, _, _, _, _, _, _, _, rfl⟩ | ⟨_, _, _, _, _, _, _, _, _, _, _, _, _, rfl⟩ <;> k_get
theorem CrcAB.mCopy (h : CrcAB w es N i x P rev f tb val) : getL (Str.ofString "copy") es = some none := by
  rcases h with ⟨_, _, _, _, _, _, _, _, _, _, _, _, _, rfl⟩ | ⟨_, _, _, _, _, _, _, _, _, _, _, _, _, rfl⟩ <;> k_get
theorem CrcAB.mNew (h : CrcAB w es N i x P rev f tb val) : getL (Str.ofString "new") es = some none := by
  rcases h with ⟨_, _, _, _, _, _, _, _, _, _, _, _, _, rfl⟩ | ⟨_, _, _, _, _, _, _, _, _, _, _, _, _, rfl⟩ <;> k_get
theorem CrcAB.mDig (h : CrcAB w es N i x P rev f tb val) : getL (Str.ofString "digest") es = some none := by
  rcases h with ⟨_, _, _, _, _, _, _, _, _, _, _, _, _, rfl⟩ | ⟨_, _, _, _, _, _, _, _, _, _, _, _, _, rfl⟩ <;> k_get
theorem CrcAB.aVal (h : CrcAB w es N i x P rev f tb val) : ∃ t, getL (Str.ofString "crcValue") es = some (some (.int (val : Int) t)) := by
  rcases h with ⟨_, _, _, _, _, _, _, _, _, _, _, _, _, rfl⟩ | ⟨_, _, _, _, _, _, _, _, _, _, _, _, _, rfl⟩
  · exact ⟨_, by k_get⟩
  · exact ⟨_, by k_get⟩
end
section
variable {prog : Program} {w : World} {A : Around} {E : Value → Shared → Prop} {s : Shared} {value slice : PySem.Expr} {b : Array UInt8} {t u : Tok} {h₀ : Heap} {L : Addr} {m : PySem.Str → Option Value} {news : List (Addr × Obj)} {Q : Value → Shared → Prop} {c : Nat}
theorem clip_nat {n c : Nat} (h : c ≤ n) : clipAt n (c : Int) = c := by
  have := clipAt_cast n (c : Int)
  rw [if_neg (by omega)] at this
  omega
theorem cut_first (hF : Fr h₀ L s.heap m) (hN : News h₀ L s.heap news) (hc : c ≤ b.size) (hz : b.size ≤ 1000)
    (h : ∀ h' t' k b', Fr h₀ L h' m → News h₀ L h' news → octs b' = (octs b).take c → Q (.bytes b' t') { s with heap := h', toks := k })
    (hs : subscripted slice false (.bytes b t) (.ref s.heap.objs.size) = operate [.ref s.heap.objs.size, .bytes b t] (getItem (.bytes b t) (.ref s.heap.objs.size)) := by with_unfolding_all rfl)
    (ht : ∀ r, letTemporaryGo value (.bytes b t) r = pure () := by intro _; with_unfolding_all rfl) :
    wpAny (model prog w) A (subscriptTail value slice (.bytes b t) (.ref s.heap.objs.size)) Q E { s with heap := s.heap.push { cls := .type "slice", data := .fields #[.none, .int (c : Int) u, .none] } } := by
  have hl : (KBw.bInts b).length = b.size := by rw [bInts_octs, List.length_map, octs_length]
  refine KBc.slice_K (ks := KBw.bInts b) hF hN rfl .none (.int (c : Int) u) (by rw [hl]; omega) (fun h' t' k F' N' e => h h' t' k _ F' N' ?_) hs ht
  refine octs_of ?_
  rw [e, bInts_octs]
  simp only [Option.elim, List.length_map, octs_length, clip_nat hc, List.drop_zero, Nat.sub_zero]
  rw [List.map_take]
theorem cut_rest (hF : Fr h₀ L s.heap m) (hN : News h₀ L s.heap news) (hc : c ≤ b.size) (hz : b.size ≤ 1000)
    (h : ∀ h' t' k b', Fr h₀ L h' m → News h₀ L h' news → octs b' = (octs b).drop c → Q (.bytes b' t') { s with heap := h', toks := k })
    (hs : subscripted slice false (.bytes b t) (.ref s.heap.objs.size) = operate [.ref s.heap.objs.size, .bytes b t] (getItem (.bytes b t) (.ref s.heap.objs.size)) := by with_unfolding_all rfl)
    (ht : ∀ r, letTemporaryGo value (.bytes b t) r = pure () := by intro _; with_unfolding_all rfl) :
    wpAny (model prog w) A (subscriptTail value slice (.bytes b t) (.ref s.heap.objs.size)) Q E { s with heap := s.heap.push { cls := .type "slice", data := .fields #[.int (c : Int) u, .none, .none] } } := by
  have hl : (KBw.bInts b).length = b.size := by rw [bInts_octs, List.length_map, octs_length]
  refine KBc.slice_K (ks := KBw.bInts b) hF hN rfl (.int (c : Int) u) .none (by rw [hl]; omega) (fun h' t' k F' N' e => h h' t' k _ F' N' ?_) hs ht
  refine octs_of ?_
  rw [e, bInts_octs]
  simp only [Option.elim, List.length_map, octs_length, clip_nat hc]
  rw [← List.map_drop, List.take_of_length_le (by simp [octs_length])]
end
theorem cut_ex {v p : Int} {n : Nat} (h : v.fmod ((n : Int) + 1) = p) : ∃ c : Nat, p = (c : Int) ∧ c ≤ n := by
  have hp : (0 : Int) < (n : Int) + 1 := by omega
  have h0 := Int.fmod_nonneg_of_pos v hp
  have h1 := Int.fmod_lt_of_pos v hp
  exact ⟨(v.fmod ((n : Int) + 1)).toNat, by omega, by omega⟩
theorem len_le {b b' : Array UInt8} {c : Nat} (h : octs b' = (octs b).take c ∨ octs b' = (octs b).drop c) (hb : b.size ≤ 1000) : b'.size ≤ 1000 := by
  have := octs_length b'
  have h2 := octs_length b
  rcases h with h | h <;> rw [h] at this <;> simp at this <;> omega
theorem fd_all {q d : Addr} {a b c : Obj} {front own rest : List (Addr × Obj)} (g3 : 271 < d) (g4 : d < q) (g5 : ∀ p ∈ front, p.1 < d) (g6 : ∀ p ∈ rest, p.1 < d) (g7 : ∀ b ∈ own, q < b.1) :
    ∀ p ∈ (248, a) :: (253, b) :: (271, c) :: (front ++ (own ++ rest)), p.1 ≠ d := by
  intro p hp
  simp only [List.mem_cons, List.mem_append] at hp
  rcases hp with rfl | rfl | rfl | hp | hp | hp
  · exact Nat.ne_of_lt (Nat.lt_trans (show (248 : Nat) < 271 by decide) g3)
  · exact Nat.ne_of_lt (Nat.lt_trans (show (253 : Nat) < 271 by decide) g3)
  · exact Nat.ne_of_lt g3
  · exact Nat.ne_of_lt (g5 p hp)
  · exact Nat.ne_of_gt (Nat.lt_trans g4 (g7 p hp))
  · exact Nat.ne_of_lt (g6 p hp)
theorem sub_all {a b c : Addr × Obj} {front own : List (Addr × Obj)} : ∀ p ∈ own, p ∈ a :: b :: c :: (front ++ own) := fun _ hp => .tail _ (.tail _ (.tail _ (List.mem_append_right _ hp)))
theorem cut_join {b b1 b2 : Array UInt8} {c : Nat} (h1 : octs b1 = (octs b).take c) (h2 : octs b2 = (octs b).drop c) : octs b = octs b1 ++ octs b2 := by rw [h1, h2, List.take_append_drop]
theorem fd_two {q d q2 d2 : Addr} {a b : Obj} {l : List (Addr × Obj)} (g4 : d < q) (j1 : d2 < q2) (j2 : q < d2) (j3 : d < d2) (h : ∀ p ∈ l, p.1 ≠ d) : ∀ p ∈ (q2, a) :: (d2, b) :: l, p.1 ≠ d := by
  intro p hp
  simp only [List.mem_cons] at hp
  rcases hp with rfl | rfl | hp
  · exact Nat.ne_of_gt (Nat.lt_trans j3 j1)
  · exact Nat.ne_of_gt j3
  · exact h p hp
theorem sumL_lt {P sm len la f m : Nat} (hP : Dg P sm) (hla : la < 2 ^ sm) : sumL P sm len la f m < 2 ^ sm := Nat.xor_lt_two_pow hla (cmod_lt hP _)
theorem sums_lt {sl : List Nat} {n B : Nat} {G : Nat → Nat} (hl : sl.length = n) (hv : ∀ j, j < n → sl.getD j 0 = G j) (hG : ∀ j, G j < 2 ^ B) : ∀ x ∈ sl, x < 2 ^ B := by
  intro x hx
  obtain ⟨j, hj, rfl⟩ := List.mem_iff_getElem.mp hx
  have := hv j (by omega)
  rw [List.getD_eq_getElem?_getD, List.getElem?_eq_getElem hj] at this
  simp only [Option.getD_some] at this
  rw [this]; exact hG j
theorem dig_eq {b : Array UInt8} {k v : Nat} (h : KBw.bInts b = (KTBy.little k (v : Int)).reverse) : b = (digB k v).toArray := by
  rw [little_cast, ← List.map_reverse] at h
  refine octs_inj ?_
  rw [octs_of h]
  have := digB_octs k v
  unfold octs digB
  rw [← this]
theorem size_div (sm ln : Nat) : ((sm : Int) * (ln : Int)).fdiv 8 = ((sm * ln / 8 : Nat) : Int) := by
  rw [← Int.natCast_mul, show (8 : Int) = ((8 : Nat) : Int) from rfl, fdiv_cast]
theorem wv_lt {n v : Nat} (h8 : 8 * (n / 8) = n) (h : v < 2 ^ n) : (v : Int) < ((2 ^ (8 * (n / 8)) : Nat) : Int) := by
  rw [h8]; exact Int.ofNat_lt.mpr h
theorem fd_three {q d d2 : Addr} {a b : Obj} {l : List (Addr × Obj)} (j2 : q < d2) (j3 : d < d2) (j4 : ∀ p ∈ l, p.1 < d2) : ∀ p ∈ (q, a) :: (d, b) :: l, p.1 ≠ d2 := by
  intro p hp
  simp only [List.mem_cons] at hp
  rcases hp with rfl | rfl | hp
  · exact Nat.ne_of_lt j2
  · exact Nat.ne_of_lt j3
  · exact Nat.ne_of_lt (j4 p hp)
theorem rot6 {h₀ h : Heap} {L : Addr} {a b c d e f : Addr × Obj} {l : List (Addr × Obj)} (N : News h₀ L h (a :: b :: c :: d :: e :: f :: l)) : News h₀ L h (e :: f :: a :: b :: c :: d :: l) := fun p hp => N p (by
  simp only [List.mem_cons] at hp ⊢
  rcases hp with hp | hp | hp | hp | hp | hp | hp <;> simp only [hp, true_or, or_true])
theorem sub7 {a b c d e f g : Addr × Obj} {own : List (Addr × Obj)} : ∀ p ∈ own, p ∈ a :: b :: c :: d :: e :: f :: g :: own := fun _ hp => .tail _ (.tail _ (.tail _ (.tail _ (.tail _ (.tail _ (.tail _ hp))))))
theorem fd_four {q d q2 d2 d3 : Addr} {a b c e x y : Obj} {l : List (Addr × Obj)} (i2 : q2 < d3) (i3 : d2 < d3) (i4 : ∀ p ∈ (q, x) :: (d, y) :: l, p.1 < d3) : ∀ p ∈ (q, a) :: (d, b) :: (q2, c) :: (d2, e) :: l, p.1 ≠ d3 := by
  intro p hp
  simp only [List.mem_cons] at hp
  rcases hp with rfl | rfl | rfl | rfl | hp
  · exact Nat.ne_of_lt (i4 (q, x) (.head _))
  · exact Nat.ne_of_lt (i4 (d, y) (.tail _ (.head _)))
  · exact Nat.ne_of_lt i2
  · exact Nat.ne_of_lt i3
  · exact Nat.ne_of_lt (i4 p (.tail _ (.tail _ hp)))
theorem swap22 {h₀ h : Heap} {L : Addr} {a b c d : Addr × Obj} {l : List (Addr × Obj)} (N : News h₀ L h (a :: b :: c :: d :: l)) : News h₀ L h (c :: d :: a :: b :: l) := fun p hp => N p (by
  simp only [List.mem_cons] at hp ⊢
  rcases hp with hp | hp | hp | hp | hp <;> simp only [hp, true_or, or_true])
end Mine
end
section
local macro_rules | `(tactic| walk_at "call ref") => `(tactic| (k_here; (with_reducible show wpAny _ _ (call (Value.ref 292) _) _ _ _); k_dflt (refine' Mine.CtH.use (Mine.at_ct _ _ _ _ _ _ _ _ _ ?I ?l ?i) ?B ?F ?K ?N ?T ?cs ?dp ?un ?H ?_; (case N => k_asm); (case I => k_extra "I"); (case l => omega); (case H => assumption); (case i => first | decide | omega); (case B => k_asm); (case F => k_asm); (case K => k_asm); (case T => k_asm); (case cs => rfl); (case dp => k_room); (case un => k_units)); (intro r9 n9 h9 tk9 hC F9 N9); obtain ⟨t9, hr9, hn9⟩ := hC; subst hr9 hn9; (try dsimp only); (try k_sweep)))
local macro_rules | `(tactic| walk_at "assign Tuple") => `(tactic| (k_here; (with_reducible show wpAny _ _ (assign (Expr.Tuple _ _ _) _ (Value.ref _)) _ _ _); k_dflt (refine' Mine.pair_unpack (by assumption) ?F ?N ?X ?k1 ?k2 ?k3 ?_; (case F => k_asm); (case N => k_asm); (case X => k_asm); (case k1 => exact rfl); (case k2 => exact rfl); (case k3 => exact rfl)); intro h' F' N'; (try k_sweep)))
local macro_rules | `(tactic| walk_at "subscriptTail Name Name ref int") => `(tactic| (k_here; (with_reducible show wpAny _ _ (subscriptTail _ _ (Value.ref _) (Value.int _ _)) _ _ _); k_dflt (refine' Mine.tab_itemN ?N ?m ?I ?b ?l ?_; (case N => k_asm); (case m => with_unfolding_all k_mem); (case I => assumption); (case b => k_extra "idx"); (case l => k_extra "len")); intro t9; (try dsimp only)))
local macro_rules | `(tactic| walk_at "subscriptTail Name Constant ref int") => `(tactic| (k_here; (with_reducible show wpAny _ _ (subscriptTail _ _ (Value.ref _) (Value.int _ _)) _ _ _); k_dflt (refine' Mine.tab_itemN ?N ?m ?I ?b ?l ?_; (case N => k_asm); (case m => with_unfolding_all k_mem); (case I => assumption); (case b => k_extra "idx"); (case l => k_extra "len")); intro t9; (try dsimp only)))
local macro_rules | `(tactic| walk_at "call ref") => `(tactic| (k_here; (with_reducible show wpAny _ _ (call (Value.ref 306) _) _ _ _); k_dflt (refine' Mine.Ct.use (Mine.laid_ct _ _ _ _ _ _ _ _ _ ?e ?es ?hS ?h8) ?B ?F ?K ?N ?T ?cs ?dp ?un ?_; (case N => k_asm); (case e => k_extra "e"); (case es => k_extra "es"); (case hS => omega); (case h8 => omega); (case B => k_asm); (case F => k_asm); (case K => k_asm); (case T => k_asm); (case cs => rfl); (case dp => k_room); (case un => k_units)); (intro r9 n9 h9 tk9 hC F9 N9); obtain ⟨t9, hr9, hn9⟩ := hC; subst hr9 hn9; (try dsimp only); (try k_sweep)))
local macro_rules | `(tactic| walk_at "call ref") => `(tactic| (k_here; (with_reducible show wpAny _ _ (call (Value.ref 313) _) _ _ _); k_dflt (refine' Mine.Ct.use (Mine.octets_ct _ _ _ _ _ _ _ _ _ ?e ?es ?hS ?hV) ?B ?F ?K ?N ?T ?cs ?dp ?un ?_; (case N => k_asm); (case e => k_extra "e"); (case es => k_extra "es"); (case hS => omega); (case hV => k_extra "hV"); (case B => k_asm); (case F => k_asm); (case K => k_asm); (case T => k_asm); (case cs => rfl); (case dp => k_room); (case un => k_units)); (intro r9 n9 h9 tk9 hC F9 N9); obtain ⟨b9, t9, hr9, hn9, hb9⟩ := hC; subst hr9 hn9; (try dsimp only); (try k_sweep)))
local macro_rules | `(tactic| walk_at "call ref") => `(tactic| (k_here; (with_reducible show wpAny _ _ (call (Value.ref 327) _) _ _ _); k_dflt (refine' Mine.Ct.use (Mine.rest_ct _ _ _ _ _ _ _ _ _ ?e ?eb ?hP ?hn ?hA) ?B ?F ?K ?N ?T ?cs ?dp ?un ?_; (case N => k_asm); (case e => k_extra "e"); (case eb => k_extra "es"); (case hP => assumption); (case hn => omega); (case hA => k_extra "hA"); (case B => k_asm); (case F => k_asm); (case K => k_asm); (case T => k_asm); (case cs => rfl); (case dp => k_room); (case un => k_units)); (intro r9 n9 h9 tk9 hC F9 N9); obtain ⟨t9, hr9, hn9⟩ := hC; subst hr9 hn9; (try dsimp only); (try k_sweep)))
local macro_rules | `(tactic| walk_at "call ref") => `(tactic| (k_here; (with_reducible show wpAny _ _ (call (Value.ref 334) _) _ _ _); k_dflt (refine' Mine.Ct.use (Mine.num_ct _ _ _ _) ?B ?F ?K ?N ?T ?cs ?dp ?un ?_; (case N => k_asm); skip; (case B => k_asm); (case F => k_asm); (case K => k_asm); (case T => k_asm); (case cs => rfl); (case dp => k_room); (case un => k_units)); (intro r9 n9 h9 tk9 hC F9 N9); obtain ⟨hr9, hn9⟩ := hC; subst hr9 hn9; (try dsimp only); (try k_sweep)))
local macro_rules | `(tactic| walk_at "callWith") => `(tactic| (k_here; (try dsimp only); k_dflt (refine' callWith_F ?k1 ?_; (case k1 => k_extra "crcF"); k_whole)))
local macro_rules | `(tactic| walk_at "FnAt") => `(tactic| (k_extra "crcF"))
local macro_rules | `(tactic| walk_at "call ref") => `(tactic| (k_here; (with_reducible show wpAny _ _ (call (Value.ref _) [Value.bytes _ _, Value.int _ _]) _ _ _); (rename Mine.CrcFn _ _ _ _ _ _ => cfX); k_dflt (refine' Mine.Ct.use (cfX.2.1 _ _ _ _ _ ?S ?hb ?hc) ?B ?F ?K ?N ?T ?cs ?dp ?un ?_; (case N => k_asm); (case S => k_extra "crcS"); (case hb => omega); (case hc => k_extra "crcC"); (case B => k_asm); (case F => k_asm); (case K => k_asm); (case T => k_asm); (case cs => rfl); (case dp => k_room); (case un => k_units)); (intro r9 n9 h9 tk9 hC F9 N9); obtain ⟨t9, hr9, hn9⟩ := hC; subst hr9 hn9; (try dsimp only); k_extra "toldrw"; (try k_sweep)))
local macro_rules | `(tactic| walk_at "call ref") => `(tactic| (k_here; (with_reducible show wpAny _ _ (call (Value.ref _) [Value.bytes _ _]) _ _ _); (rename Mine.CrcFn _ _ _ _ _ _ => cfX); k_dflt (refine' Mine.Ct.use (cfX.1 _ _ _ ?S ?hb) ?B ?F ?K ?N ?T ?cs ?dp ?un ?_; (case N => k_asm); (case S => k_extra "crcS"); (case hb => omega); (case B => k_asm); (case F => k_asm); (case K => k_asm); (case T => k_asm); (case cs => rfl); (case dp => k_room); (case un => k_units)); (intro r9 n9 h9 tk9 hC F9 N9); obtain ⟨t9, hr9, hn9⟩ := hC; subst hr9 hn9; (try dsimp only); k_extra "toldrw"; (try k_sweep)))
local macro_rules | `(tactic| walk_at "call type:range") => `(tactic| (k_here; (rename Fr _ _ _ _ => F'); (rename News _ _ _ _ => N'); (with_unfolding_all refine range1_rows F' N' ?_); intro _ _ _ _ _ _ _ _ _))
local macro_rules | `(tactic| walk_at "call builtin:list.append") => `(tactic| (k_here; (with_reducible show wpAny _ _ (call (Value.builtin _) [Value.ref _, _]) _ _ _); k_dflt (refine' append_K ?k1 ?k2 ?k3 ?_ ?z; (case k1 => k_asm); (case k2 => k_asm); (case k3 => (refine' Upd.head ?a; (case a => k_extra "appA"))); (case z => k_extra "appZ")); (try k_whole); intro h' F' N'; (try k_sweep)))
local macro_rules | `(tactic| walk_at "call ref") => `(tactic| (k_here; (with_reducible show wpAny _ _ (call (Value.ref 320) _) _ _ _); k_dflt (refine' Mine.Ct.use (Mine.woven_ct2 _ _ _ _ _ _ ?m ?I ?h ?hr) ?B ?F ?K ?N ?T ?cs ?dp ?un ?_; (case N => k_asm); (case m => with_unfolding_all k_mem); (case I => assumption); (case h => k_extra "wl"); (case hr => k_extra "wr"); (case B => k_asm); (case F => k_asm); (case K => k_asm); (case T => k_asm); (case cs => rfl); (case dp => k_room); (case un => k_units)); (intro r9 n9 h9 tk9 hC F9 N9); obtain ⟨t9, hr9, hn9⟩ := hC; subst hr9 hn9; (try dsimp only); k_extra "wn"; (try k_sweep)))
local macro_rules | `(tactic| walk_at "getMethod ref") => `(tactic| (k_here; (with_reducible show wpAny _ _ (getMethod (Value.ref _) _ _) _ _ _); k_dflt (refine' method_inst ?k1 ?k2 ?k3 ?k4 ?k5 ?k6 ?k7 ?_; (case k1 => k_asm); (case k2 => k_asm); (case k3 => k_inst); (case k4 => k_is); (case k5 => k_is); (case k6 => k_is); (case k7 => first | exact Mine.CrcAB.mUpd (by assumption) | exact Mine.CrcAB.mCopy (by assumption) | exact Mine.CrcAB.mNew (by assumption) | exact Mine.CrcAB.mDig (by assumption)); k_whole)))
local macro_rules | `(tactic| walk_at "subscriptTail") => `(tactic| (k_here; (with_reducible show wpAny _ _ (subscriptTail _ (Expr.Slice _ _ none _) (Value.bytes _ _) (Value.ref _)) _ _ _); (with_reducible rename Fr _ _ _ _ => F'); (with_reducible rename News _ _ _ _ => N'); first | (refine Mine.cut_first (s := ⟨_, _, _, _, _⟩) F' N' (by assumption) (by k_extra "cutS") ?_) | (refine Mine.cut_rest (s := ⟨_, _, _, _, _⟩) F' N' (by assumption) (by k_extra "cutS") ?_)); intro h9 t9 k9 b9 F9 N9 hcut9; (try k_sweep))
local macro_rules | `(tactic| walk_at "getAttr ref") => `(tactic| (k_here; (with_reducible show wpAny _ _ (getAttr (Value.ref _) _ _) _ _ _); k_dflt (refine' get_own ?k1 ?k2 ?k3 ?k4 ?k5 ?k6 ?k7 ?k8 ?k9 ?_; (case k1 => k_asm); (case k2 => k_asm); (case k3 => k_inst); (case k4 => k_is); (case k5 => k_is); (case k6 => k_is); (case k7 => k_is); (case k8 => assumption); (case k9 => k_handed); k_whole)))
theorem PySem.Challenge.cw_aa5007_03_holds : PySem.Challenge.rw_aa5007_03.Holds := by
  refine Mine.hd ?_
  k_with_none
  k_with "I" => exact hI
  k_with "idx" => omega
  k_with "len" => omega
  k_with "e" => first | (with_reducible exact rfl) | (with_reducible exact Mine.rest_res _ _ _ _ _ _) | (with_reducible exact Mine.rest_arg _ _ _ _ _)
  k_with "es" => first | (with_reducible exact rfl) | (with_reducible exact (Int.natCast_mul _ _).symm)
  k_go0
  rename List Int => ns
  rename IntsAre _ _ => hI
  repeat' ((fail_if_success (with_reducible show wpAny _ _ (subscriptTail _ _ (Value.ref 284) (Value.int _ _)) _ _ _)); walk1)
  k_here
  k_dflt (refine' Mine.pair_item ?F ?X ?h0 ?h7 ?_)
  case F => k_asm
  case X => k_asm
  case h0 => exact Int.fmod_nonneg_of_pos _ (by decide)
  case h7 => exact Int.fmod_lt_of_pos _ (by decide)
  intro pa9 sm ln ta9 tb9 hp9 hsl
  (try dsimp only)
  repeat' ((fail_if_success (with_reducible show wpAny _ _ (execs [_, _, _, _, _, _, _, _, _, _, _, _, _, _, _, _, _, _, _, _, _, _, _, _] _) _ _ _)); walk1)
  have hb := hsl.bnd
  have hok := hsl.ok
  repeat' ((fail_if_success (with_reducible show wpAny _ _ (execs [_, _, _, _, _, _, _, _, _, _, _, _, _, _, _, _, _, _, _, _, _] _) _ _ _)); walk1)
  generalize ((Mine.atI _ 1 0).fmod 2 == 1) = r1 at *
  generalize ((Mine.atI _ 2 1).fmod 2 == 1) = r2 at *
  repeat' ((fail_if_success (with_reducible show wpAny _ _ (execs [_, _, _, _, _, _, _, _, _, _, _, _, _, _, _, _, _, _, _, _] _) _ _ _)); walk1)
  generalize hP : Builtin.bitOr (1 * 2 ^ _) _ = p at *
  obtain ⟨P, rfl, hdP⟩ := Mine.poly_ex hP
  clear hP
  repeat' ((fail_if_success (with_reducible show wpAny _ _ (execs [_, _, _, _, _, _, _, _, _, _, _, _, _, _, _, _, _, _, _] _) _ _ _)); walk1)
  · exact absurd (by assumption) hsl.div
  generalize hle : 1 + (Mine.atI ns 4 1).fmod (Int.fdiv 8 _) = p at *
  obtain ⟨len, rfl, hl1, hl4, hl8⟩ := Mine.len_ex hsl hle
  clear hle
  repeat' ((fail_if_success (with_reducible show wpAny _ _ (execs [_, _, _, _, _, _, _, _, _, _, _, _, _, _, _, _, _, _] _) _ _ _)); walk1)
  generalize hla : (Mine.atI ns 5 3).fmod (2 ^ _) = p at *
  obtain ⟨la, rfl, hla2⟩ := Mine.rem_ex hla
  clear hla
  repeat' ((fail_if_success (with_reducible show wpAny _ _ (execs [_, _, _, _, _, _, _, _, _, _, _, _, _, _, _, _, _] _) _ _ _)); walk1)
  rename IntsAre _ (List.map _ _) => hI8
  obtain ⟨fl, hfI, hfl, hflt⟩ := Mine.ints_nat hI8
  clear hI8
  repeat' ((fail_if_success (with_reducible show wpAny _ _ (execs [_, _, _, _, _, _, _, _, _, _, _, _, _, _, _, _] _) _ _ _)); walk1)
  rename IntsAre _ (List.map _ (rangeKs _ _)) => hI8
  obtain ⟨ml, hmI, hml, hmlt⟩ := Mine.ints_nat8 hI8
  clear hI8
  repeat' ((fail_if_success (with_reducible show wpAny _ _ (call (Value.ref 218) _) _ _ _)); walk1)
  have hlx : Mine.lay r1 sm la < 2 ^ sm := Mine.lay_lt hla2
  have hf0 : fl.getD (Int.toNat 0) 0 < 2 ^ sm := Mine.getD_lt hflt _
  have hlf := Mine.lay_lt (r := r1) hf0
  rename News _ _ _ _ => N1
  have N2 := Mine.perm_told N1
  k_dflt (refine' Mine.Ct.use (Mine.mkCrcFun_ct _ P sm _ _ _ r1 _ _ _ _ #[] #[] #[] _ [] rfl hok.1 hdP.1 hdP.2 ?f1 ?f2 ?f3 ?fr Mine.TabHas.nil Mine.TabHas.nil Mine.TabHas.nil) ?B ?F ?K ?N ?T ?cs ?dp ?un ?_; (case N => exact N2); (case f1 => (refine List.forall_mem_cons.mpr ⟨?_, List.forall_mem_cons.mpr ⟨?_, List.forall_mem_cons.mpr ⟨?_, List.forall_mem_cons.mpr ⟨?_, List.forall_mem_cons.mpr ⟨?_, fun _ hp => nomatch hp⟩⟩⟩⟩⟩ <;> k_ne)); (case f2 => (refine List.forall_mem_cons.mpr ⟨?_, List.forall_mem_cons.mpr ⟨?_, List.forall_mem_cons.mpr ⟨?_, List.forall_mem_cons.mpr ⟨?_, List.forall_mem_cons.mpr ⟨?_, fun _ hp => nomatch hp⟩⟩⟩⟩⟩ <;> k_ne)); (case f3 => (refine List.forall_mem_cons.mpr ⟨?_, List.forall_mem_cons.mpr ⟨?_, List.forall_mem_cons.mpr ⟨?_, List.forall_mem_cons.mpr ⟨?_, List.forall_mem_cons.mpr ⟨?_, fun _ hp => nomatch hp⟩⟩⟩⟩⟩ <;> k_ne)); (case fr => exact fun _ hp => nomatch hp); (case B => k_asm); (case F => k_asm); (case K => k_asm); (case T => k_asm); (case cs => rfl); (case dp => k_room); (case un => k_units))
  all_goals (try exact (0 : Nat))
  intro r9 n9 h9 tk9 hC F9 N9
  obtain ⟨fa, own, t1, t2, t3, hr9, hn9, H1, H2, H3, o1, o2, hfn⟩ := hC
  subst hr9 hn9
  simp only [List.append_nil, List.cons_append, List.nil_append] at N9 H1 H2 H3 hfn
  rw [Mine.mskN_id hlx, Mine.mskN_id hlf] at hfn
  clear N1 N2
  (try dsimp only)
  (try k_sweep)
  obtain ⟨oc9, od9, fd9, sl9, hfm⟩ := hfn.2.2
  k_with "crcF" => k_dflt (exact FnAt.of (oc := oc9) (od := od9) (fd := fd9) (sl := sl9) (by k_asm) (by kcf_m))
  k_with "crcS" => (intro p9 hp9; kcf_m)
  k_with "crcC" => exact Mine.lay_lt (Mine.getD_lt hflt _)
  k_with "toldrw" => rw [Mine.told_val hdP (by omega) hla2 (Mine.getD_lt hflt _) (by assumption)]
  k_with "hV" => exact Mine.getD_lt hmlt _
  k_with "hA" => exact Mine.rest_arg_lt (Mine.getD_lt hflt _) hla2 (Mine.getD_lt hmlt _) (by omega) (by omega)
  k_with "shl" => first | exact Mine.shl_bits (Mine.getD_lt hmlt _) (by omega) (by omega) | exact Mine.shl_xor (Mine.getD_lt hflt _) hla2 (by omega) (by omega)
  repeat' ((fail_if_success (with_reducible show wpAny _ _ (execs [_, _, _, _, _, _, _, _, _, _, _, _, _, _, _] _) _ _ _)); walk1)
  k_with "appA" => ((rename OwnOff _ _ => ho9); (rename ((248 : Nat) < _ ∧ _) => hl9); exact Mine.app_all hl9 ho9)
  k_with "appZ" => exact Mine.app_size (by assumption) (by assumption) (by assumption) (by omega)
  repeat' ((fail_if_success (with_reducible show wpAny _ _ (pyIter (Value.ref _)) _ _ _)); walk1)
  k_with "state" => first | exact rfl | exact Mine.sum_state (by assumption)
  k_state_short (fun (pre : List Int) (sums : List Int) => sums = pre.map (fun k => ((Mine.sumL P sm len la (fl.getD k.toNat 0) (ml.getD k.toNat 0) : Nat) : Int))) "sums"
  · repeat' ((fail_if_success (with_reducible show wpAny _ _ (execs [_, _] _) _ _ _)); walk1)
    · rename (_ = (0 : Int)) => hk0
      subst hk0
      k_steps
    · k_steps
  rename (_ = List.map _ (rangeKs _ _)) => hk9
  subst hk9
  rename IntsAre _ (List.map _ (rangeKs _ _)) => hS8
  obtain ⟨sl, hsI, hsl2, hsv⟩ := Mine.ints_sums (fun j => Mine.sumL P sm len la (fl.getD j 0) (ml.getD j 0)) hS8
  clear hS8
  have hs0 : sl.getD (Int.toNat 0) 0 = Mine.sumL P sm len la (fl.getD (Int.toNat 0) 0) (ml.getD (Int.toNat 0) 0) := hsv 0 (by omega)
  repeat' ((fail_if_success (with_reducible show wpAny _ _ (execs [_, _, _, _, _, _, _, _, _, _, _, _] _) _ _ _)); walk1)
  · rename _ ≠ _ => hx9
    exact absurd (by rw [hs0]) hx9
  k_with "wl" => (try simp only [hml, hfl, hsl2, hwl, List.length_replicate]); omega
  k_with "wn" => simp only [hml, hfl, hsl2, hwl, List.length_replicate, Mine.rep_eq, Mine.wide_eq hln1]
  k_with "wr" => first | (intro x9 hx9; rw [(List.mem_replicate.mp hx9).2]; exact Nat.lt_of_lt_of_le hla2 (Nat.pow_le_pow_right (by decide) (by omega))) | exact fun x9 hx9 => Nat.lt_of_lt_of_le (hmlt x9 hx9) (Nat.pow_le_pow_right (by decide) (by omega)) | exact fun x9 hx9 => Nat.lt_of_lt_of_le (hflt x9 hx9) (Nat.pow_le_pow_right (by decide) (by omega)) | exact Mine.wl_lt (Nat.lt_of_lt_of_le hdP.2 (Nat.pow_le_pow_right (by decide) (by omega)))
  k_with "hV" => exact Mine.wor_oct (by omega) hmlt
  repeat' ((fail_if_success (with_reducible show wpAny _ _ (call (Value.ref 320) _) _ _ _)); walk1)
  rename IntsAre _ (_ ++ [_]) => hw8
  have hwI := Mine.ints_wide hw8
  clear hw8
  have hln1 : 1 ≤ ln := by omega
  have hwl := Mine.wl_len (P := P) hln1
  repeat' ((fail_if_success (with_reducible show wpAny _ _ (execs [_, _, _, _, _, _, _, _, _, _, _] _) _ _ _)); walk1)
  repeat' ((fail_if_success (with_reducible show wpAny _ _ (execs [_, _, _, _, _, _, _, _, _, _] _) _ _ _)); walk1)
  repeat' ((fail_if_success (with_reducible show wpAny _ _ (execs [_, _, _, _, _, _, _, _, _] _) _ _ _)); walk1)
  repeat' ((fail_if_success (with_reducible show wpAny _ _ (call (Value.ref 320) _) _ _ _)); walk1)
  walk1
  repeat' ((fail_if_success (with_reducible show wpAny _ _ (call (Value.ref 320) _) _ _ _)); walk1)
  rename IntsAre _ (List.flatten (List.replicate _ [_])) => hi8
  have hrI := Mine.ints_rep hi8
  clear hi8
  walk1
  repeat' ((fail_if_success (with_reducible show wpAny _ _ (call (Value.ref 206) _) _ _ _)); walk1)
  have hdW : Mine.Dg (Mine.spr ln P) (sm * ln) := by rw [Nat.mul_comm]; exact Mine.spr_dg hln1 sm P hdP
  rename News _ _ _ _ => N1
  have N2 := Mine.perm_whole N1
  clear N1
  k_dflt (refine' Mine.Ct.use (Mine.crc_new_ct _ (Mine.spr ln P) (sm * ln) _ _ _ r2 _ _ _ _ t1 t2 t3 _ own rfl hok.2 hdW.1 hdW.2 ?f1 ?f2 ?f3 o1 H1 H2 H3) ?B ?F ?K ?N ?T ?cs ?dp ?un ?_; (case N => exact N2); (case f1 => (refine List.forall_mem_cons.mpr ⟨?_, List.forall_mem_cons.mpr ⟨?_, List.forall_mem_cons.mpr ⟨?_, List.forall_mem_cons.mpr ⟨?_, fun _ hp => nomatch hp⟩⟩⟩⟩ <;> k_ne)); (case f2 => (refine List.forall_mem_cons.mpr ⟨?_, List.forall_mem_cons.mpr ⟨?_, List.forall_mem_cons.mpr ⟨?_, List.forall_mem_cons.mpr ⟨?_, fun _ hp => nomatch hp⟩⟩⟩⟩ <;> k_ne)); (case f3 => (refine List.forall_mem_cons.mpr ⟨?_, List.forall_mem_cons.mpr ⟨?_, List.forall_mem_cons.mpr ⟨?_, List.forall_mem_cons.mpr ⟨?_, fun _ hp => nomatch hp⟩⟩⟩⟩ <;> k_ne)); (case B => k_asm); (case F => k_asm); (case K => k_asm); (case T => k_asm); (case cs => rfl); (case dp => k_room); (case un => k_units))
  all_goals (try exact (0 : Nat))
  intro r9 n9 h9 tk9 hC F9 N9
  obtain ⟨q, d, es, wf, wtb, own2, t1', t2', t3', hr9, hn9, G1, G2, G3, g1, g2, g3, g4, g5, g6, g7, hAB, hfw⟩ := hC
  subst hr9 hn9
  have hlw : Mine.wor ln (fun _ => la) ln < 2 ^ (sm * ln) := by
    rw [Mine.wor_eq hln1, Nat.mul_comm]; exact Mine.wov_lt hln1 fun _ _ => hla2
  have hfw2 : Mine.wor ln (fun j => fl.getD j 0) ln < 2 ^ (sm * ln) := by
    rw [Nat.mul_comm]; exact Mine.wor_lt' hln1 hflt
  rw [Mine.mskN_id (Mine.lay_lt hlw), Mine.mskN_id (Mine.lay_lt hfw2)] at hAB hfw
  clear N2
  (try dsimp only)
  (try k_sweep)
  generalize hcu : (Mine.atI ns 6 1).fmod _ = p at *
  obtain ⟨cu, rfl, hcu2⟩ := Mine.cut_ex hcu
  clear hcu
  k_with "cutS" => omega
  repeat' ((fail_if_success (with_reducible show wpAny _ _ (call (Value.ref 181) _) _ _ _)); walk1)
  rename (Mine.octs _ = List.take _ _) => hc1
  rename News _ _ _ _ => N1
  have hv1 := Mine.lay_lt (r := r2) hfw2
  have hxw := Mine.lay_lt (r := r2) hlw
  have hn8 : 8 ≤ sm * ln := by rcases hok.2 with h | h | h | h | h <;> rw [h] <;> decide
  k_dflt (refine' Mine.Ct.use (Mine.update_ct _ (sm * ln) _ _ _ r2 wf wtb q d _ es _ _ _ (own2 ++ own) _ hAB hfw ?S ?hb hv1 g4 ?fd) ?B ?F ?K ?N ?T ?cs ?dp ?un ?_; (case N => exact N1); (case S => exact Mine.sub_all); (case hb => exact Mine.len_le (.inl hc1) (by omega)); (case fd => exact Mine.fd_all g3 g4 g5 g6 g7); (case B => k_asm); (case F => k_asm); (case K => k_asm); (case T => k_asm); (case cs => rfl); (case dp => k_room); (case un => k_units))
  all_goals (try exact (0 : Nat))
  intro r9 n9 h9 tk9 hC F9 N9
  obtain ⟨es1, hr9, hn9, hAB1⟩ := hC
  subst hr9 hn9
  clear N1
  (try dsimp only)
  (try k_sweep)
  repeat' ((fail_if_success (with_reducible show wpAny _ _ (execs [_, _, _, _, _, _, _] _) _ _ _)); walk1)
  repeat' ((fail_if_success (with_reducible show wpAny _ _ (call (Value.ref 174) _) _ _ _)); walk1)
  rename News _ _ _ _ => N1
  k_dflt (refine' Mine.Ct.use (Mine.copy_ct _ (sm * ln) _ _ _ r2 wf wtb q d _ es1 _ hok.2 hAB1 g4 ?fd) ?B ?F ?K ?N ?T ?cs ?dp ?un ?_; (case N => exact N1); (case fd => exact Mine.fd_all g3 g4 g5 g6 g7); (case B => k_asm); (case F => k_asm); (case K => k_asm); (case T => k_asm); (case cs => rfl); (case dp => k_room); (case un => k_units))
  all_goals (try exact (0 : Nat))
  intro r9 n9 h9 tk9 hC F9 N9
  obtain ⟨q2, d2, es2, hr9, hn9, hAB2, j1, j2, j3, j4⟩ := hC
  subst hr9 hn9
  clear N1
  (try dsimp only)
  (try k_sweep)
  repeat' ((fail_if_success (with_reducible show wpAny _ _ (execs [_, _, _, _, _, _] _) _ _ _)); walk1)
  repeat' ((fail_if_success (with_reducible show wpAny _ _ (call (Value.ref 181) _) _ _ _)); walk1)
  rename (Mine.octs _ = List.drop _ _) => hc2
  rename (Mine.msgOf r2 _ = _ ∧ _) => hb9
  rename News _ _ _ _ => N1
  have N2 := Mine.swap22 N1
  have hc12 := Mine.cut_join hc1 hc2
  have hw0 := Mine.whole_val hln1 hn8 hdP hla2 hflt hb9 hsv
  k_dflt (refine' Mine.Ct.use (Mine.update_ct _ (sm * ln) _ _ _ r2 wf wtb q d _ es1 _ _ _ (own2 ++ own) _ hAB1 hfw ?S ?hb ?hv g4 ?fd) ?B ?F ?K ?N ?T ?cs ?dp ?un ?_; (case N => exact N2); (case S => exact fun p hp => .tail _ (.tail _ (Mine.sub_all p hp))); (case hb => exact Mine.len_le (.inr hc2) (by omega)); (case hv => exact Mine.crcVal_lt (P := Mine.spr ln P) hn8 hxw hv1 _); (case fd => exact Mine.fd_two g4 j1 j2 j3 (Mine.fd_all g3 g4 g5 g6 g7)); (case B => k_asm); (case F => k_asm); (case K => k_asm); (case T => k_asm); (case cs => rfl); (case dp => k_room); (case un => k_units))
  all_goals (try exact (0 : Nat))
  intro r9 n9 h9 tk9 hC F9 N9
  obtain ⟨es3, hr9, hn9, hAB3⟩ := hC
  subst hr9 hn9
  clear N1 N2
  rw [Mine.crc_two hc12, hw0] at hAB3
  (try dsimp only)
  (try k_sweep)
  repeat' ((fail_if_success (with_reducible show wpAny _ _ (execs [_, _, _, _, _] _) _ _ _)); walk1)
  rename News _ _ _ _ => N1
  simp only [List.cons_append, List.nil_append] at N1
  have hslt := Mine.sums_lt hsl2 hsv (fun _ => Mine.sumL_lt hdP hla2)
  k_with "wr" => exact fun x9 hx9 => Nat.lt_of_lt_of_le (hslt x9 hx9) (Nat.pow_le_pow_right (by decide) (by omega))
  repeat' ((fail_if_success (with_reducible show wpAny _ _ (execs [_, _, _, _] _) _ _ _)); walk1)
  have hWlt : Mine.lay r2 (sm * ln) (Mine.wor ln (fun j => sl.getD j 0) ln) < 2 ^ (sm * ln) := Mine.lay_lt (by rw [Nat.mul_comm]; exact Mine.wor_lt' hln1 hslt)
  generalize Mine.lay r2 (sm * ln) (Mine.wor ln (fun j => sl.getD j 0) ln) = WV at *
  obtain ⟨tv3, htv3⟩ := hAB3.aVal
  repeat' ((fail_if_success (with_reducible show wpAny _ _ (call (Value.ref 188) _) _ _ _)); walk1)
  · rename _ ≠ _ => hx9
    exact absurd rfl hx9
  rename News _ _ _ _ => N1
  k_dflt (refine' Mine.Ct.use (Mine.digest_ct _ (sm * ln) _ _ _ r2 wf wtb q d WV es3 _ hok.2 hAB3 hWlt g4 ?fd) ?B ?F ?K ?N ?T ?cs ?dp ?un ?_; (case N => exact N1); (case fd => exact Mine.fd_two g4 j1 j2 j3 (Mine.fd_all g3 g4 g5 g6 g7)); (case B => k_asm); (case F => k_asm); (case K => k_asm); (case T => k_asm); (case cs => rfl); (case dp => k_room); (case un => k_units))
  all_goals (try exact (0 : Nat))
  intro r9 n9 h9 tk9 hC F9 N9
  obtain ⟨td9, hr9, hn9⟩ := hC
  subst hr9 hn9
  clear N1
  (try dsimp only)
  (try k_sweep)
  repeat' ((fail_if_success (with_reducible show wpAny _ _ (call (Value.builtin _) [Value.int _ _, Value.int _ _, Value.str _ _]) _ _ _)); walk1)
  rw [Mine.size_div]
  (try dsimp only)
  (with_unfolding_all refine KTBy.to_big (k := sm * ln / 8) (by omega) (Mine.p256' _) (by omega) (Mine.wv_lt (by omega) hWlt) ?_)
  intro b8 t8 k8 hb8 hbl8
  obtain rfl := Mine.dig_eq hb8
  clear hb8 hbl8
  (try dsimp only)
  repeat' ((fail_if_success (with_reducible show wpAny _ _ (execs [_, _, _] _) _ _ _)); walk1)
  · rename ((_ != _) = true) => hx9
    exact absurd hx9 (by simp)
  repeat' ((fail_if_success (with_reducible show wpAny _ _ (call (Value.ref 167) _) _ _ _)); walk1)
  rename News _ _ _ _ => N1
  have N2 := Mine.swap22 N1
  k_dflt (refine' Mine.Ct.use (Mine.new1_ct _ (sm * ln) _ _ _ r2 wf wtb q2 d2 _ es2 _ _ _ (own2 ++ own) _ hok.2 hAB2 hfw ?S ?hb hv1 j1 ?fd) ?B ?F ?K ?N ?T ?cs ?dp ?un ?_; (case N => exact N2); (case S => exact fun p hp => .tail _ (.tail _ (Mine.sub7 p hp))); (case hb => omega); (case fd => exact Mine.fd_three j2 j3 j4); (case B => k_asm); (case F => k_asm); (case K => k_asm); (case T => k_asm); (case cs => rfl); (case dp => k_room); (case un => k_units))
  all_goals (try exact (0 : Nat))
  intro r9 n9 h9 tk9 hC F9 N9
  obtain ⟨q3, d3, es4, hr9, hn9, hAB4, i1, i2, i3, i4⟩ := hC
  subst hr9 hn9
  clear N1 N2
  rw [hw0] at hAB4
  (try dsimp only)
  (try k_sweep)
  repeat' ((fail_if_success (with_reducible show wpAny _ _ (execs [_, _] _) _ _ _)); walk1)
  repeat' ((fail_if_success (with_reducible show wpAny _ _ (call (Value.ref 181) _) _ _ _)); walk1)
  rename (Mine.octs _ = List.drop _ _) => hc3
  rename News _ _ _ _ => N1
  have N2 := Mine.swap22 N1
  have hc13 := Mine.cut_join hc1 hc3
  k_dflt (refine' Mine.Ct.use (Mine.update_ct _ (sm * ln) _ _ _ r2 wf wtb q2 d2 _ es2 _ _ _ (own2 ++ own) _ hAB2 hfw ?S ?hb ?hv j1 ?fd) ?B ?F ?K ?N ?T ?cs ?dp ?un ?_; (case N => exact N2); (case S => exact fun p hp => .tail _ (.tail _ (.tail _ (.tail _ (Mine.sub7 p hp))))); (case hb => exact Mine.len_le (.inr hc3) (by omega)); (case hv => exact Mine.crcVal_lt (P := Mine.spr ln P) hn8 hxw hv1 _); (case fd => exact Mine.fd_two j1 i1 i2 i3 (Mine.fd_three j2 j3 j4)); (case B => k_asm); (case F => k_asm); (case K => k_asm); (case T => k_asm); (case cs => rfl); (case dp => k_room); (case un => k_units))
  all_goals (try exact (0 : Nat))
  intro r9 n9 h9 tk9 hC F9 N9
  obtain ⟨es5, hr9, hn9, hAB5⟩ := hC
  subst hr9 hn9
  clear N1 N2
  rw [Mine.crc_two hc13, hw0] at hAB5
  (try dsimp only)
  (try k_sweep)
  repeat' ((fail_if_success (with_reducible show wpAny _ _ (execs [_] _) _ _ _)); walk1)
  obtain ⟨tv5, htv5⟩ := hAB5.aVal
  obtain ⟨tv4, htv4⟩ := hAB4.aVal
  repeat' ((fail_if_success (with_reducible show wpAny _ _ (call (Value.ref 188) _) _ _ _)); walk1)
  rotate_left
  · rename _ ≠ _ => hx9
    exact absurd rfl hx9
  rename News _ _ _ _ => N1
  k_dflt (refine' Mine.Ct.use (Mine.digest_ct _ (sm * ln) _ _ _ r2 wf wtb q2 d2 WV es5 _ hok.2 hAB5 hWlt j1 ?fd) ?B ?F ?K ?N ?T ?cs ?dp ?un ?_; (case N => exact N1); (case fd => exact Mine.fd_two j1 i1 i2 i3 (Mine.fd_three j2 j3 j4)); (case B => k_asm); (case F => k_asm); (case K => k_asm); (case T => k_asm); (case cs => rfl); (case dp => k_room); (case un => k_units))
  all_goals (try exact (0 : Nat))
  intro r9 n9 h9 tk9 hC F9 N9
  obtain ⟨td9, hr9, hn9⟩ := hC
  subst hr9 hn9
  clear N1
  (try dsimp only)
  (try k_sweep)
  repeat' ((fail_if_success (with_reducible show wpAny _ _ (call (Value.ref 188) _) _ _ _)); walk1)
  have hqd3 : q < d3 := Nat.lt_trans j2 (Nat.lt_trans j1 i2)
  have hdd3 : d < d3 := Nat.lt_trans g4 hqd3
  rename News _ _ _ _ => N1
  k_dflt (refine' Mine.Ct.use (Mine.digest_ct _ (sm * ln) _ _ _ r2 wf wtb q d WV es3 _ hok.2 hAB3 hWlt g4 ?fd) ?B ?F ?K ?N ?T ?cs ?dp ?un ?_; (case N => exact Mine.rot6 N1); (case fd => exact Mine.fd_two g4 j1 j2 j3 (Mine.fd_two g4 i1 hqd3 hdd3 (Mine.fd_all g3 g4 g5 g6 g7))); (case B => k_asm); (case F => k_asm); (case K => k_asm); (case T => k_asm); (case cs => rfl); (case dp => k_room); (case un => k_units))
  all_goals (try exact (0 : Nat))
  intro r9 n9 h9 tk9 hC F9 N9
  obtain ⟨td9, hr9, hn9⟩ := hC
  subst hr9 hn9
  clear N1
  (try dsimp only)
  (try k_sweep)
  repeat' ((fail_if_success (with_reducible show wpAny _ _ (call (Value.ref 188) _) _ _ _)); walk1)
  rotate_left
  · rename _ ≠ _ => hx9
    exact absurd rfl hx9
  · rename ((_ == _) = false) => hx9
    exact absurd hx9 (by simp)
  rename News _ _ _ _ => N1
  k_dflt (refine' Mine.Ct.use (Mine.digest_ct _ (sm * ln) _ _ _ r2 wf wtb q3 d3 WV es4 _ hok.2 hAB4 hWlt i1 ?fd) ?B ?F ?K ?N ?T ?cs ?dp ?un ?_; (case N => exact Mine.rot6 N1); (case fd => exact Mine.fd_four i2 i3 i4); (case B => k_asm); (case F => k_asm); (case K => k_asm); (case T => k_asm); (case cs => rfl); (case dp => k_room); (case un => k_units))
  all_goals (try exact (0 : Nat))
  intro r9 n9 h9 tk9 hC F9 N9
  obtain ⟨td9, hr9, hn9⟩ := hC
  subst hr9 hn9
  clear N1
  (try dsimp only)
  (try k_sweep)
  repeat' ((fail_if_success (with_reducible show wpAny _ _ (call (Value.ref 188) _) _ _ _)); walk1)
  rename News _ _ _ _ => N1
  k_dflt (refine' Mine.Ct.use (Mine.digest_ct _ (sm * ln) _ _ _ r2 wf wtb q d WV es3 _ hok.2 hAB3 hWlt g4 ?fd) ?B ?F ?K ?N ?T ?cs ?dp ?un ?_; (case N => exact Mine.swap22 N1); (case fd => exact Mine.fd_two g4 i1 (q2 := q3) (d2 := d3) hqd3 hdd3 (Mine.fd_two g4 j1 j2 j3 (Mine.fd_all g3 g4 g5 g6 g7))); (case B => k_asm); (case F => k_asm); (case K => k_asm); (case T => k_asm); (case cs => rfl); (case dp => k_room); (case un => k_units))
  all_goals (try exact (0 : Nat))
  intro r9 n9 h9 tk9 hC F9 N9
  obtain ⟨td9, hr9, hn9⟩ := hC
  subst hr9 hn9
  clear N1
  (try dsimp only)
  (try k_sweep)
  k_steps
end
