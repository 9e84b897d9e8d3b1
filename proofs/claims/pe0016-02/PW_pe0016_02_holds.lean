import PyProof.Rows.All
import Wide.All
import OpenK.AllK
import Wide.FinOn
import PySem.Challenge.RW_pe0016_02
set_option Elab.async false
set_option maxRecDepth 100000
set_option linter.unusedVariables false
set_option linter.unusedSimpArgs false
section
open PySem PyProof.Rows
namespace Mine
theorem nat_xor_and : ∀ (x y : Nat), (x ^^^ y) + 2 * (x &&& y) = x + y := by
  intro x
  induction x using Nat.strongRecOn with
  | _ x ih =>
    intro y
    by_cases hx : x = 0
    · subst hx; simp
    · have h := ih (x / 2) (by omega) (y / 2)
      have e1 : (x ^^^ y) / 2 = x / 2 ^^^ y / 2 := Nat.xor_div_two
      have e2 : (x &&& y) / 2 = x / 2 &&& y / 2 := Nat.and_div_two
      have e3 : (x ^^^ y) % 2 = (x % 2 + y % 2) % 2 := by
        have := Nat.testBit_xor x y 0
        simp only [Nat.testBit_zero] at this
        rcases Nat.mod_two_eq_zero_or_one x with a | a <;> rcases Nat.mod_two_eq_zero_or_one y with b | b <;> rcases Nat.mod_two_eq_zero_or_one (x ^^^ y) with c | c <;> simp only [a, b, c] at this ⊢ <;> first | rfl | (exact absurd this (by decide))
      have e4 : (x &&& y) % 2 = (x % 2) * (y % 2) := by
        have := Nat.testBit_and x y 0
        simp only [Nat.testBit_zero] at this
        rcases Nat.mod_two_eq_zero_or_one x with a | a <;> rcases Nat.mod_two_eq_zero_or_one y with b | b <;> rcases Nat.mod_two_eq_zero_or_one (x &&& y) with c | c <;> simp only [a, b, c] at this ⊢ <;> first | rfl | (exact absurd this (by decide))
      rw [← e1, ← e2] at h
      rcases Nat.mod_two_eq_zero_or_one x with a | a <;> rcases Nat.mod_two_eq_zero_or_one y with b | b <;> simp only [a, b, Nat.mul_zero, Nat.zero_mul, Nat.mul_one] at e3 e4 <;> omega

theorem bitXor_nat (x y : Nat) : Builtin.bitXor (x : Int) (y : Int) = ((x ^^^ y : Nat) : Int) := by
  rw [bitXor_and, bitAnd_pp (by omega) (by omega)]
  have := nat_xor_and x y
  simp only [Int.toNat_natCast]
  omega

def crcStep (c : Nat) : Nat := if c % 2 = 1 then (c / 2) ^^^ 3988292384 else c / 2
def crcN : Nat → Nat → Nat
  | 0, c => c
  | n + 1, c => crcStep (crcN n c)
def genI (v : Int) : Int := ((crcN 8 v.toNat : Nat) : Int)
theorem genI_nonneg (v : Int) : 0 ≤ genI v := by unfold genI; omega

theorem gen_start {v : Int} (hv : 0 ≤ v) : v = ((crcN ([] : List Int).length v.toNat : Nat) : Int) := by
  show v = ((v.toNat : Nat) : Int)
  omega
theorem fdiv_half (c : Nat) : (c : Int).fdiv (2 ^ Int.toNat 1) = ((c / 2 : Nat) : Int) := by
  have : (2 : Int) ^ Int.toNat 1 = 2 := by decide
  rw [this, Int.fdiv_eq_ediv_of_nonneg _ (by decide)]
  omega
theorem gen_odd {v crc : Int} {pre : List Int} {k : Int} (h : crc = ((crcN pre.length v.toNat : Nat) : Int)) (hb : Builtin.bitAnd crc 1 ≠ 0) :
    Builtin.bitXor (crc.fdiv (2 ^ Int.toNat 1)) 3988292384 = ((crcN (pre ++ [k]).length v.toNat : Nat) : Int) := by
  subst h
  rw [bitAnd_m1] at hb
  rw [fdiv_half]
  have e : (3988292384 : Int) = ((3988292384 : Nat) : Int) := rfl
  rw [e, bitXor_nat]
  rw [List.length_append]
  show _ = ((crcStep (crcN pre.length v.toNat) : Nat) : Int)
  unfold crcStep
  rw [if_pos (by omega)]
theorem gen_even {v crc : Int} {pre : List Int} {k : Int} (h : crc = ((crcN pre.length v.toNat : Nat) : Int)) (hb : Builtin.bitAnd crc 1 = 0) :
    crc.fdiv (2 ^ Int.toNat 1) = ((crcN (pre ++ [k]).length v.toNat : Nat) : Int) := by
  subst h
  rw [bitAnd_m1] at hb
  rw [fdiv_half]
  rw [List.length_append]
  show _ = ((crcStep (crcN pre.length v.toNat) : Nat) : Int)
  unfold crcStep
  rw [if_neg (by omega)]
end Mine
end
section
open PySem PySem.W PyProof.Rows
namespace Mine
/-- the letters' numbers (0 to 15), the highest first; f: turns at most -/
def digs : Nat → Nat → List Int
  | 0, _ => []
  | f + 1, n => if n = 0 then [] else digs f (n / 16) ++ [((n % 16 : Nat) : Int) + 65]
theorem digs_le : ∀ (f n : Nat), (digs f n).length ≤ f
  | 0, _ => Nat.le_refl _
  | f + 1, n => by
    unfold digs
    split
    · simp
    · rw [List.length_append]; have := digs_le f (n / 16); simp; omega
theorem digs_zero (f : Nat) : digs f 0 = [] := by cases f <;> rfl
theorem digs_more : ∀ (f n : Nat), n < 16 ^ f → digs (f + 1) n = digs f n
  | 0, n, h => by
    have : n = 0 := by simpa using h
    subst this; rfl
  | f + 1, n, h => by
    conv => lhs; unfold digs
    conv => rhs; unfold digs
    split
    · rfl
    · rw [digs_more f (n / 16) (by rw [Nat.pow_succ] at h; omega)]
theorem digs_ge {f : Nat} : ∀ {g n : Nat}, f ≤ g → n < 16 ^ f → digs g n = digs f n := by
  intro g n hg hn
  induction g with
  | zero => have : f = 0 := by omega
            subst this; rfl
  | succ g ih =>
    by_cases e : f = g + 1
    · subst e; rfl
    · have hfg : f ≤ g := by omega
      rw [digs_more g n (Nat.lt_of_lt_of_le hn (Nat.pow_le_pow_right (by decide) hfg)), ih hfg]
/-- what Int2AP gives: its letters' codes -/
def apI (v : Int) : List Int := digs 16 v.natAbs

structure ApInv (v num : Int) (val : Array UInt8) : Prop where
  lo : 0 ≤ num
  hi : num < 18446744073709551616
  size : val.size ≤ 16
  eq : digs 16 num.toNat ++ KBw.bInts val = apI v
end Mine
namespace Mine
open PySem PySem.W PyProof.Rows
def apTab : Array UInt8 := #[65, 66, 67, 68, 69, 70, 71, 72, 73, 74, 75, 76, 77, 78, 79, 80]
theorem ap_pick_fin : ∀ k : Fin 16, KBw.bInts (KBy.picked #[65, 66, 67, 68, 69, 70, 71, 72, 73, 74, 75, 76, 77, 78, 79, 80] (some (k.val : Int)) (some ((k.val : Int) + 1))) = [((k.val : Int) + 65)] := by decide +kernel
theorem ap_pick (num : Int) : KBw.bInts (KBy.picked #[65, 66, 67, 68, 69, 70, 71, 72, 73, 74, 75, 76, 77, 78, 79, 80] (some (num.fmod 16)) (some (num.fmod 16 + 1))) = [num.fmod 16 + 65] := by
  have e : num.fmod 16 = num % 16 := Int.fmod_eq_emod_of_nonneg _ (by decide)
  have := ap_pick_fin ⟨(num % 16).toNat, by omega⟩
  have e2 : (((num % 16).toNat : Nat) : Int) = num % 16 := by omega
  simp only [e2] at this
  rw [e]
  exact this
theorem ap_room {v num x : Int} {val : Array UInt8} (h : ApInv v num val) : ([x] : List Int).length + (KBw.bInts val).length ≤ 16777216 := by
  have := h.size
  rw [KBw.ints_length]
  simp
  omega
theorem digs_turn {n : Nat} (h0 : n ≠ 0) (hn : n < 18446744073709551616) : digs 16 n = digs 16 (n / 16) ++ [((n % 16 : Nat) : Int) + 65] := by
  rw [digs_more 15 (n / 16) (by have : (16 : Nat) ^ 15 = 1152921504606846976 := by decide
                                omega)]
  conv => lhs; unfold digs
  rw [if_neg h0]
theorem ap_turn {v num : Int} {val : Array UInt8} (h : ApInv v num val) (h0 : num ≠ 0) :
    ApInv v (num.fdiv 16) (KBy.picked #[65, 66, 67, 68, 69, 70, 71, 72, 73, 74, 75, 76, 77, 78, 79, 80] (some (num.fmod 16)) (some (num.fmod 16 + 1)) ++ val) := by
  have e : num.fdiv 16 = num / 16 := Int.fdiv_eq_ediv_of_nonneg _ (by decide)
  have e2 : num.fmod 16 = num % 16 := Int.fmod_eq_emod_of_nonneg _ (by decide)
  have lo := h.lo
  have hi := h.hi
  have key : digs 16 (num.fdiv 16).toNat ++ KBw.bInts (KBy.picked #[65, 66, 67, 68, 69, 70, 71, 72, 73, 74, 75, 76, 77, 78, 79, 80] (some (num.fmod 16)) (some (num.fmod 16 + 1)) ++ val) = apI v := by
    rw [KBw.ints_app (ap_pick num) rfl, ← h.eq, digs_turn (n := num.toNat) (by omega) (by omega), List.append_assoc, e, e2]
    have e3 : (num / 16).toNat = num.toNat / 16 := by omega
    have e4 : ((num.toNat % 16 : Nat) : Int) = num % 16 := by omega
    rw [e3, e4]
  refine ⟨by omega, by omega, ?_, key⟩
  have := congrArg List.length key
  rw [List.length_append, KBw.ints_length] at this
  have := digs_le 16 v.natAbs
  unfold apI at *
  omega
theorem ap_less {v num : Int} {val : Array UInt8} (h : ApInv v num val) (h0 : num ≠ 0) : (num.fdiv 16).toNat < num.toNat := by
  have e : num.fdiv 16 = num / 16 := Int.fdiv_eq_ediv_of_nonneg _ (by decide)
  have lo := h.lo
  omega
theorem ap_start {v : Int} (h1 : -18446744073709551616 < v) (h2 : v < 18446744073709551616) : ApInv v (if v < 0 then -v else v) #[] := by
  have e : (if v < 0 then -v else v) = ((v.natAbs : Nat) : Int) := by split <;> omega
  rw [e]
  refine ⟨by omega, by omega, by simp, ?_⟩
  show digs 16 ((v.natAbs : Nat) : Int).toNat ++ [] = digs 16 v.natAbs
  simp
theorem ap_end {v num : Int} {val : Array UInt8} (h : ApInv v num val) (h0 : num = 0) : KBw.bInts val = apI v := by
  rw [← h.eq, h0]
  rfl
end Mine
end
section
open PySem PySem.W PyProof.Rows
namespace Mine
@[irreducible] def pwN (i : Nat) : Nat := crcN (16 * i) 2147483648
@[irreducible] def pwI : List Int := (List.range 32).map fun i => ((pwN i : Nat) : Int)
theorem pwI_length : pwI.length = 32 := by simp [pwI]
def leapN : Nat → Nat → Nat
  | 0, _ => 0
  | p + 1, r => if r / 2 ^ (31 - p) % 2 = 1 then leapN p r ^^^ pwN p else leapN p r
def leapI (v : Int) : Int := ((leapN 32 v.toNat : Nat) : Int)
end Mine
namespace Mine
open PySem PySem.W PyProof.Rows
theorem fdiv_pow (c : Nat) (k : Nat) : (c : Int).fdiv (2 ^ k) = ((c / 2 ^ k : Nat) : Int) := by
  have e : (2 : Int) ^ k = ((2 ^ k : Nat) : Int) := by simp
  rw [e, Int.fdiv_eq_ediv_of_nonneg _ (Int.natCast_nonneg _)]
  exact (Int.natCast_ediv c (2 ^ k)).symm
theorem bit_one {v : Int} (hv : 0 ≤ v) (k : Nat) : Builtin.bitAnd (v.fdiv (2 ^ k)) 1 = ((v.toNat / 2 ^ k % 2 : Nat) : Int) := by
  have e : v = ((v.toNat : Nat) : Int) := by omega
  rw [bitAnd_m1]
  conv => lhs; rw [e]
  rw [fdiv_pow]
  omega
theorem pwI_at {k : Nat} (h : k < 32) : pwI.getD k 0 = ((pwN k : Nat) : Int) := by
  simp [pwI, List.getD, h]
theorem leap_start {v : Int} : (0 : Int) = ((leapN ([] : List Int).length v.toNat : Nat) : Int) := rfl
theorem leap_one {v tot k : Int} {pre : List Int} (hv : 0 ≤ v) (h : tot = ((leapN pre.length v.toNat : Nat) : Int)) (hk : k = 0 + (pre.length : Int)) (hlt : pre.length < (32 - 0 : Int).toNat)
    (hb : Builtin.bitAnd (v.fdiv (2 ^ (31 - k).toNat)) 1 = 1) :
    Builtin.bitXor tot (pwI.getD k.toNat 0) = ((leapN (pre ++ [k]).length v.toNat : Nat) : Int) := by
  have e1 : k.toNat = pre.length := by omega
  have e2 : (31 - k).toNat = 31 - pre.length := by omega
  rw [e2, bit_one hv] at hb
  rw [e1, pwI_at (by simpa using hlt), h, bitXor_nat, List.length_append]
  show _ = ((leapN (pre.length + 1) v.toNat : Nat) : Int)
  conv => rhs; unfold leapN
  rw [if_pos (by omega)]
theorem leap_none {v tot k : Int} {pre : List Int} (hv : 0 ≤ v) (h : tot = ((leapN pre.length v.toNat : Nat) : Int)) (hk : k = 0 + (pre.length : Int)) (hlt : pre.length < (32 - 0 : Int).toNat)
    (hb : ¬ Builtin.bitAnd (v.fdiv (2 ^ (31 - k).toNat)) 1 = 1) :
    tot = ((leapN (pre ++ [k]).length v.toNat : Nat) : Int) := by
  have e2 : (31 - k).toNat = 31 - pre.length := by omega
  rw [e2, bit_one hv] at hb
  rw [h, List.length_append]
  show _ = ((leapN (pre.length + 1) v.toNat : Nat) : Int)
  conv => rhs; unfold leapN
  rw [if_neg (by omega)]
theorem leap_end {v x : Int} (h : x = ((leapN (rangeKs 0 (32 - 0 : Int).toNat).length v.toNat : Nat) : Int)) : x = leapI v := h
end Mine
end
section
open PySem PySem.W PyProof.Rows
namespace Mine
def genIt : Nat → Int → Int
  | 0, r => r
  | n + 1, r => genI (genIt n r)
def walkL (ls : List Int) : Int := ls.foldl (fun r d => genIt (d - 65).toNat (leapI r)) 2147483648
theorem leapI_nonneg (v : Int) : 0 ≤ leapI v := by unfold leapI; omega
theorem genIt_nonneg {r : Int} (h : 0 ≤ r) : ∀ n, 0 ≤ genIt n r
  | 0 => h
  | n + 1 => genI_nonneg _
theorem walkL_snoc (pre : List Int) (d : Int) : walkL (pre ++ [d]) = genIt (d - 65).toNat (leapI (walkL pre)) := by
  unfold walkL
  rw [List.foldl_append]
  rfl
structure WalkInv (pre : List Int) (reg : Int) : Prop where
  lo : 0 ≤ reg
  eq : reg = walkL pre
structure GenInv (r : Int) (pre : List Int) (reg : Int) : Prop where
  lo : 0 ≤ reg
  eq : reg = genIt pre.length r
theorem walk_start : WalkInv [] (2 ^ Int.toNat 31) := ⟨by decide, by decide⟩
theorem gi_start {r : Int} : GenInv (leapI r) [] (leapI r) := ⟨leapI_nonneg r, rfl⟩
theorem gi_turn {r x k : Int} {pre : List Int} (h : GenInv r pre x) : GenInv r (pre ++ [k]) (genI x) := by
  refine ⟨genI_nonneg _, ?_⟩
  rw [h.eq, List.length_append]
  rfl
theorem walk_turn {pre : List Int} {reg x d : Int} (h : WalkInv pre reg) (g : GenInv (leapI reg) (rangeKs 0 (d - 65 - 0).toNat) x) : WalkInv (pre ++ [d]) x := by
  refine ⟨g.lo, ?_⟩
  rw [walkL_snoc, ← h.eq, g.eq, rangeKs_length]
  congr 2
  omega
end Mine
end
section
open PySem PySem.W PyProof.Rows
namespace Mine
theorem crcN_add (a b c : Nat) : crcN (a + b) c = crcN a (crcN b c) := by
  induction a with
  | zero => simp [crcN]
  | succ a ih => rw [Nat.succ_add]; show crcStep _ = crcStep _; rw [ih]
theorem pw_next (i : Nat) : genI (genI ((pwN i : Nat) : Int)) = ((pwN (i + 1) : Nat) : Int) := by
  unfold genI pwN
  rw [Int.toNat_natCast, Int.toNat_natCast, ← crcN_add, ← crcN_add]
  have : 8 + 8 + 16 * i = 16 * (i + 1) := by omega
  rw [this]
structure PowInv (pre ps : List Int) : Prop where
  len : ps.length = pre.length + 1
  eq : ps = pwI.take (pre.length + 1)
theorem pow_start : ([2 ^ Int.toNat 31] : List Int).length = ([] : List Int).length + 1 ∧ PowInv [] [2 ^ Int.toNat 31] := ⟨rfl, ⟨rfl, by decide +kernel⟩⟩
theorem pwI_take {n : Nat} (h : n < 32) : pwI.take (n + 1) = pwI.take n ++ [((pwN n : Nat) : Int)] := by
  rw [List.take_add_one]
  congr 1
  simp [pwI, h]
theorem pow_turn {pre ps : List Int} {k : Int} (h : PowInv pre ps) (hlt : pre.length < (31 - 0 : Int).toNat) :
    (ps ++ [genI (genI (ps.getD (-1 + (ps.length : Int)).toNat 0))]).length = (pre ++ [k]).length + 1 ∧ PowInv (pre ++ [k]) (ps ++ [genI (genI (ps.getD (-1 + (ps.length : Int)).toNat 0))]) := by
  have hlt' : pre.length < 31 := by simpa using hlt
  have hn := h.len
  refine ⟨by simp [hn], ⟨by simp [hn], ?_⟩⟩
  have e : ps.getD (-1 + (ps.length : Int)).toNat 0 = ((pwN pre.length : Nat) : Int) := by
    have e0 : (-1 + (ps.length : Int)).toNat = pre.length := by omega
    rw [e0, h.eq, pwI_take (by omega)]
    have : (pwI.take pre.length).length = pre.length := by rw [List.length_take, pwI_length]; omega
    simp [List.getD, this]
  rw [e, pw_next, List.length_append]
  show _ = pwI.take (pre.length + 1 + 1)
  rw [pwI_take (by omega), h.eq]
theorem pow_lo {pre ps : List Int} (h : PowInv pre ps) : 0 ≤ ps.getD (-1 + (ps.length : Int)).toNat 0 := by
  have : ∀ x ∈ pwI, 0 ≤ x := by
    intro x hx
    simp only [pwI, List.mem_map] at hx
    obtain ⟨i, _, rfl⟩ := hx
    omega
  have hn := h.len
  have hlt : ps.length - 1 < ps.length := by omega
  have e0 : (-1 + (ps.length : Int)).toNat = ps.length - 1 := by omega
  have e : ps.getD (-1 + (ps.length : Int)).toNat 0 = ps[ps.length - 1] := by rw [e0]; simp [List.getD, hlt]
  rw [e]
  refine this _ ?_
  have h9 : ps[ps.length - 1] ∈ ps := List.getElem_mem hlt
  have h8 : ∀ x ∈ ps, x ∈ pwI := by rw [h.eq]; exact fun x hx => List.mem_of_mem_take hx
  exact h8 _ h9
theorem pow_end {ps : List Int} (h : PowInv (rangeKs 0 (31 - 0 : Int).toNat) ps) : ps = pwI := by
  rw [h.eq, rangeKs_length]
  exact List.take_of_length_le (by rw [pwI_length]; decide)
end Mine
end
section
open PySem PySem.W PyProof.Rows
namespace Mine
/-! crcStep is linear -/
theorem step_xor (a b : Nat) : crcStep (a ^^^ b) = crcStep a ^^^ crcStep b := by
  have e1 : (a ^^^ b) / 2 = a / 2 ^^^ b / 2 := Nat.xor_div_two
  have e3 : (a ^^^ b) % 2 = (a % 2 + b % 2) % 2 := by
    have := Nat.testBit_xor a b 0
    simp only [Nat.testBit_zero] at this
    rcases Nat.mod_two_eq_zero_or_one a with x | x <;> rcases Nat.mod_two_eq_zero_or_one b with y | y <;> rcases Nat.mod_two_eq_zero_or_one (a ^^^ b) with c | c <;> simp only [x, y, c] at this ⊢ <;> first | rfl | (exact absurd this (by decide))
  unfold crcStep
  rcases Nat.mod_two_eq_zero_or_one a with x | x <;> rcases Nat.mod_two_eq_zero_or_one b with y | y <;> simp only [x, y] at e3 <;> simp only [x, y, e3, e1]
  · simp
  · simp [Nat.xor_assoc]
  · simp only [show ¬ (0 : Nat) = 1 by decide, if_false, if_true]
    rw [Nat.xor_assoc, Nat.xor_assoc, Nat.xor_comm (b / 2)]
  · simp only [show ¬ ((1 + 1) % 2 : Nat) = 1 by decide, if_false, if_true]
    rw [Nat.xor_assoc, ← Nat.xor_assoc 3988292384, Nat.xor_comm 3988292384, Nat.xor_assoc (b / 2), Nat.xor_self, Nat.xor_zero]
theorem crcN_xor (n a b : Nat) : crcN n (a ^^^ b) = crcN n a ^^^ crcN n b := by
  induction n with
  | zero => rfl
  | succ n ih => show crcStep _ = crcStep _ ^^^ crcStep _; rw [ih, step_xor]
theorem crcN_zero (n : Nat) : crcN n 0 = 0 := by
  induction n with
  | zero => rfl
  | succ n ih => show crcStep _ = _; rw [ih]; rfl
theorem step_lt {c : Nat} (h : c < 4294967296) : crcStep c < 4294967296 := by
  unfold crcStep
  split
  · exact Nat.xor_lt_two_pow (n := 32) (by omega) (by decide)
  · omega
theorem crcN_lt {c : Nat} (h : c < 4294967296) (n : Nat) : crcN n c < 4294967296 := by
  induction n with
  | zero => exact h
  | succ n ih => exact step_lt ih
/-- a step is undone: the top bit tells which way it came -/
theorem step_inj {a b : Nat} (ha : a < 4294967296) (hb : b < 4294967296) (h : crcStep a = crcStep b) : a = b := by
  have key : ∀ c, c < 4294967296 → crcStep c = 0 → c = 0 := by
    intro c hc h0
    unfold crcStep at h0
    split at h0
    · rename_i h1
      have e : c / 2 = 3988292384 := by
        have : (c / 2 ^^^ 3988292384) ^^^ 3988292384 = 0 ^^^ 3988292384 := by rw [h0]
        rw [Nat.xor_assoc, Nat.xor_self, Nat.xor_zero] at this
        simpa using this
      omega
    · omega
  have hx : crcStep (a ^^^ b) = 0 := by rw [step_xor, h, Nat.xor_self]
  have h0 := key _ (Nat.xor_lt_two_pow (n := 32) ha hb) hx
  have : (a ^^^ b) ^^^ b = 0 ^^^ b := by rw [h0]
  rw [Nat.xor_assoc, Nat.xor_self, Nat.xor_zero] at this
  simpa using this
theorem crcN_inj {a b : Nat} (ha : a < 4294967296) (hb : b < 4294967296) (n : Nat) (h : crcN n a = crcN n b) : a = b := by
  induction n with
  | zero => exact h
  | succ n ih => exact ih (step_inj (crcN_lt ha n) (crcN_lt hb n) h)
end Mine
end
section
open PySem PySem.W PyProof.Rows
namespace Mine
theorem bit_xor (a b k : Nat) : (a ^^^ b) / 2 ^ k % 2 = (a / 2 ^ k % 2 + b / 2 ^ k % 2) % 2 := by
  have e : ∀ c : Nat, c / 2 ^ k % 2 = (c.testBit k).toNat := by
    intro c
    rw [Nat.testBit_eq_decide_div_mod_eq]
    rcases Nat.mod_two_eq_zero_or_one (c / 2 ^ k) with x | x <;> simp [x]
  rw [e, e, e, Nat.testBit_xor]
  cases a.testBit k <;> cases b.testBit k <;> rfl
theorem leapN_xor (p a b : Nat) : leapN p (a ^^^ b) = leapN p a ^^^ leapN p b := by
  induction p with
  | zero => simp [leapN]
  | succ p ih =>
    unfold leapN
    rw [ih]
    have e := bit_xor a b (31 - p)
    rcases Nat.mod_two_eq_zero_or_one (a / 2 ^ (31 - p)) with x | x <;> rcases Nat.mod_two_eq_zero_or_one (b / 2 ^ (31 - p)) with y | y <;> simp only [x, y] at e <;> simp only [x, y, e]
    · simp
    · simp [Nat.xor_assoc]
    · simp only [show ¬ (0 : Nat) = 1 by decide, if_false, if_true]
      rw [Nat.xor_assoc, Nat.xor_assoc, Nat.xor_comm (leapN p b)]
    · simp only [show ¬ ((1 + 1) % 2 : Nat) = 1 by decide, if_false, if_true]
      rw [Nat.xor_assoc, ← Nat.xor_assoc (pwN p), Nat.xor_comm (pwN p), Nat.xor_assoc (leapN p b), Nat.xor_self, Nat.xor_zero]
theorem leapN_zero (p : Nat) : leapN p 0 = 0 := by
  induction p with
  | zero => rfl
  | succ p ih => unfold leapN; rw [ih]; simp
/-- two linear maps that agree at the 32 bits agree below 2^32 -/
theorem lin_ext {f g : Nat → Nat} (hf : ∀ a b, f (a ^^^ b) = f a ^^^ f b) (hg : ∀ a b, g (a ^^^ b) = g a ^^^ g b) (h0 : f 0 = g 0) :
    ∀ n, (∀ i, i < n → f (2 ^ i) = g (2 ^ i)) → ∀ c, c < 2 ^ n → f c = g c := by
  intro n
  induction n with
  | zero => intro _ c hc; have : c = 0 := by simpa using hc
            rw [this, h0]
  | succ n ih =>
    intro h c hc
    have ih' := ih (fun i hi => h i (by omega))
    by_cases hlt : c < 2 ^ n
    · exact ih' c hlt
    · have e : c = (c - 2 ^ n) ^^^ 2 ^ n := by
        have h2 : c - 2 ^ n < 2 ^ n := by rw [Nat.pow_succ] at hc; omega
        have := Nat.two_pow_add_eq_or_of_lt h2 1
        have e2 : (c - 2 ^ n) &&& 2 ^ n = 0 := by
          apply Nat.eq_of_testBit_eq
          intro i
          rw [Nat.testBit_and, Nat.testBit_two_pow, Nat.zero_testBit]
          by_cases e : n = i
          · subst e; rw [Nat.testBit_lt_two_pow h2]; rfl
          · simp [e]
        have := nat_xor_and (c - 2 ^ n) (2 ^ n)
        rw [e2] at this
        omega
      have h2 : c - 2 ^ n < 2 ^ n := by rw [Nat.pow_succ] at hc; omega
      rw [e, hf, hg, ih' _ h2, h n (by omega)]
theorem leap_gen_bits : ∀ i : Fin 32, leapN 32 (crcN 8 (2 ^ i.val)) = crcN 128 (leapN 32 (2 ^ i.val)) := by decide +kernel
theorem leap_gen {c : Nat} (h : c < 4294967296) : leapN 32 (crcN 8 c) = crcN 128 (leapN 32 c) :=
  lin_ext (f := fun c => leapN 32 (crcN 8 c)) (g := fun c => crcN 128 (leapN 32 c)) (fun a b => by simp only [crcN_xor, leapN_xor]) (fun a b => by simp only [crcN_xor, leapN_xor]) (by simp only [crcN_zero, leapN_zero]) 32
    (fun i hi => leap_gen_bits ⟨i, hi⟩) c h
theorem leap_one_ : leapN 32 2147483648 = 2147483648 := by decide +kernel
theorem leap_gens (k : Nat) : leapN 32 (crcN (8 * k) 2147483648) = crcN (128 * k) 2147483648 := by
  induction k with
  | zero => exact leap_one_
  | succ k ih =>
    have e1 : 8 * (k + 1) = 8 + 8 * k := by omega
    have e2 : 128 * (k + 1) = 128 + 128 * k := by omega
    rw [e1, e2, crcN_add, crcN_add, leap_gen (crcN_lt (by decide) _), ih]
theorem genIt_cast (n c : Nat) : genIt n ((c : Nat) : Int) = ((crcN (8 * n) c : Nat) : Int) := by
  induction n with
  | zero => rfl
  | succ n ih =>
    show genI (genIt n c) = _
    rw [ih]
    unfold genI
    rw [Int.toNat_natCast, ← crcN_add]
    congr 2
    omega
theorem walk_digs : ∀ (f n : Nat), n < 16 ^ f → walkL (digs f n) = ((crcN (8 * n) 2147483648 : Nat) : Int)
  | 0, n, h => by
    have : n = 0 := by simpa using h
    subst this; rfl
  | f + 1, n, h => by
    unfold digs
    split
    · rename_i e; subst e; rfl
    · have h2 : n / 16 < 16 ^ f := by rw [Nat.pow_succ] at h; omega
      rw [walkL_snoc, walk_digs f _ h2]
      have e1 : (((n % 16 : Nat) : Int) + 65 - 65).toNat = n % 16 := by omega
      have e2 : leapI ((crcN (8 * (n / 16)) 2147483648 : Nat) : Int) = ((crcN (128 * (n / 16)) 2147483648 : Nat) : Int) := by
        unfold leapI
        rw [Int.toNat_natCast, leap_gens]
      rw [e1, e2, genIt_cast, ← crcN_add]
      congr 2
      omega
theorem walk_at_ {n : Int} (h0 : 0 ≤ n) (h1 : n < 18446744073709551616) : walkL (apI n) = ((crcN (8 * n.toNat) 2147483648 : Nat) : Int) := by
  unfold apI
  have e : n.natAbs = n.toNat := by omega
  rw [e]
  exact walk_digs 16 _ (by have : (16 : Nat) ^ 16 = 18446744073709551616 := by decide
                           omega)
theorem walk_succ {n : Int} (h0 : 0 ≤ n) (h1 : n < 1152921504606846976) : walkL (apI (n + 1)) = genI (walkL (apI n)) := by
  rw [walk_at_ (by omega) (by omega), walk_at_ h0 (by omega)]
  unfold genI
  rw [Int.toNat_natCast, ← crcN_add]
  congr 2
  omega
end Mine
end
section
open PySem PySem.W PyProof.Rows
namespace Mine
def prodN : Nat → Nat → Nat → Nat
  | 0, _, _ => 0
  | p + 1, a, b => if b / 2 ^ p % 2 = 1 then prodN p a b ^^^ (a * 2 ^ (p + 1)) else prodN p a b
def prodI (a b : Int) : Int := genIt 4 ((prodN 32 a.toNat b.toNat : Nat) : Int)
structure PrInv (a b : Int) (pre : List Int) (tot : Int) : Prop where
  eq : tot = ((prodN pre.length a.toNat b.toNat : Nat) : Int)
theorem pr_start {a b : Int} : PrInv a b [] 0 := ⟨rfl⟩
theorem pr_one {a b tot k : Int} {pre : List Int} (ha : 0 ≤ a) (hb : 0 ≤ b) (h : PrInv a b pre tot) (hk : k = 0 + (pre.length : Int)) (hc : Builtin.bitAnd (b.fdiv (2 ^ k.toNat)) 1 = 1) :
    PrInv a b (pre ++ [k]) (Builtin.bitXor tot (a * 2 ^ (k + 1).toNat)) := by
  have e1 : k.toNat = pre.length := by omega
  have e2 : (k + 1).toNat = pre.length + 1 := by omega
  rw [e1, bit_one hb] at hc
  refine ⟨?_⟩
  have e3 : a * 2 ^ (pre.length + 1) = ((a.toNat * 2 ^ (pre.length + 1) : Nat) : Int) := by
    rw [Int.natCast_mul, Int.natCast_pow, Int.toNat_of_nonneg ha]
    rfl
  rw [e2, e3, h.eq, bitXor_nat, List.length_append]
  show _ = ((prodN (pre.length + 1) a.toNat b.toNat : Nat) : Int)
  conv => rhs; unfold prodN
  rw [if_pos (by omega)]
theorem pr_none {a b tot k : Int} {pre : List Int} (hb : 0 ≤ b) (h : PrInv a b pre tot) (hk : k = 0 + (pre.length : Int)) (hc : ¬ Builtin.bitAnd (b.fdiv (2 ^ k.toNat)) 1 = 1) :
    PrInv a b (pre ++ [k]) tot := by
  have e1 : k.toNat = pre.length := by omega
  rw [e1, bit_one hb] at hc
  refine ⟨?_⟩
  rw [h.eq, List.length_append]
  show _ = ((prodN (pre.length + 1) a.toNat b.toNat : Nat) : Int)
  conv => rhs; unfold prodN
  rw [if_neg (by omega)]
theorem PrInv.lo {a b tot : Int} {pre : List Int} (h : PrInv a b pre tot) : 0 ≤ tot := by rw [h.eq]; omega
theorem pg_start {a b x : Int} {pre : List Int} (h : PrInv a b pre x) : GenInv x [] x := ⟨h.lo, rfl⟩
structure PgInv (a b : Int) (pre : List Int) (tot : Int) : Prop where
  ex : ∃ x, PrInv a b (rangeKs 0 (32 - 0 : Int).toNat) x ∧ GenInv x pre tot
theorem PgInv.lo {a b tot : Int} {pre : List Int} (h : PgInv a b pre tot) : 0 ≤ tot := let ⟨_, _, g⟩ := h.ex; g.lo
theorem pgi_start {a b x : Int} (h : PrInv a b (rangeKs 0 (32 - 0 : Int).toNat) x) : PgInv a b [] x := ⟨x, h, h.lo, rfl⟩
theorem pgi_turn {a b x k : Int} {pre : List Int} (h : PgInv a b pre x) : PgInv a b (pre ++ [k]) (genI x) := let ⟨y, p, g⟩ := h.ex; ⟨y, p, gi_turn g⟩
theorem pgi_end {a b x : Int} (h : PgInv a b (rangeKs 0 4) x) : x = prodI a b := by
  obtain ⟨y, p, g⟩ := h.ex
  rw [g.eq, p.eq]
  rfl
theorem pr_end {a b x y : Int} (h : PrInv a b (rangeKs 0 (32 - 0 : Int).toNat) x) (g : GenInv x (rangeKs 0 4) y) : y = prodI a b := by
  rw [g.eq, h.eq]
  rfl
def movN (taps : Nat) : Nat → Nat
  | 0 => 1
  | n + 1 => if 2 * movN taps n > 15 then (2 * movN taps n) ^^^ taps else 2 * movN taps n
structure MvInv (taps : Nat) (pre : List Int) (st : Int) : Prop where
  eq : st = ((movN taps pre.length : Nat) : Int)
theorem mv_start {taps : Nat} : MvInv taps [] 1 := ⟨rfl⟩
theorem mv_big {taps : Nat} {tp st k : Int} {pre : List Int} (h : MvInv taps pre st) (ht : tp = (taps : Int)) (hc : st * 2 > 15) : MvInv taps (pre ++ [k]) (Builtin.bitXor (st * 2) tp) := by
  refine ⟨?_⟩
  have e := h.eq
  have e2 : st * 2 = ((2 * movN taps pre.length : Nat) : Int) := by omega
  rw [ht, e2, bitXor_nat, List.length_append]
  show _ = ((movN taps (pre.length + 1) : Nat) : Int)
  conv => rhs; unfold movN
  rw [if_pos (by omega)]
theorem mv_small {taps : Nat} {st k : Int} {pre : List Int} (h : MvInv taps pre st) (hc : ¬ st * 2 > 15) : MvInv taps (pre ++ [k]) (st * 2) := by
  refine ⟨?_⟩
  have e := h.eq
  have e2 : st * 2 = ((2 * movN taps pre.length : Nat) : Int) := by omega
  rw [e2, List.length_append]
  show _ = ((movN taps (pre.length + 1) : Nat) : Int)
  conv => rhs; unfold movN
  rw [if_neg (by omega)]
theorem mv_end {taps : Nat} {n x : Int} (h : MvInv taps (rangeKs 0 (n - 0).toNat) x) : x = ((movN taps n.toNat : Nat) : Int) := by
  rw [h.eq, rangeKs_length]
  congr 2
  omega
def mixN (ms : List Int) (st : Nat) : Nat → Int
  | 0 => 0
  | p + 1 => if st / 2 ^ p % 2 = 1 then Builtin.bitXor (mixN ms st p) (ms.getD p 0) else mixN ms st p
structure MxInv (ms : List Int) (st : Int) (pre : List Int) (tot : Int) : Prop where
  eq : tot = mixN ms st.toNat pre.length
theorem mx_start {ms : List Int} {st : Int} : MxInv ms st [] 0 := ⟨rfl⟩
theorem mx_one {ms : List Int} {st tot k : Int} {pre : List Int} (hs : 0 ≤ st) (h : MxInv ms st pre tot) (hk : k = 0 + (pre.length : Int)) (hc : Builtin.bitAnd (st.fdiv (2 ^ k.toNat)) 1 = 1) :
    MxInv ms st (pre ++ [k]) (Builtin.bitXor tot (ms.getD k.toNat 0)) := by
  have e1 : k.toNat = pre.length := by omega
  rw [e1, bit_one hs] at hc
  refine ⟨?_⟩
  rw [e1, h.eq, List.length_append]
  show _ = mixN ms st.toNat (pre.length + 1)
  conv => rhs; unfold mixN
  rw [if_pos (by omega)]
theorem mx_none {ms : List Int} {st tot k : Int} {pre : List Int} (hs : 0 ≤ st) (h : MxInv ms st pre tot) (hk : k = 0 + (pre.length : Int)) (hc : ¬ Builtin.bitAnd (st.fdiv (2 ^ k.toNat)) 1 = 1) :
    MxInv ms st (pre ++ [k]) tot := by
  have e1 : k.toNat = pre.length := by omega
  rw [e1, bit_one hs] at hc
  refine ⟨?_⟩
  rw [h.eq, List.length_append]
  show _ = mixN ms st.toNat (pre.length + 1)
  conv => rhs; unfold mixN
  rw [if_neg (by omega)]
theorem mx_end {ms : List Int} {st x : Int} (h : MxInv ms st (rangeKs 0 4) x) : x = mixN ms st.toNat 4 := h.eq
end Mine
end
section
open PySem PySem.W PyProof.Rows
namespace Mine
theorem step_double (c : Nat) : crcStep (c * 2) = c := by
  unfold crcStep
  rw [if_neg (by omega)]
  omega
theorem crcN_shift (a n : Nat) : ∀ i, crcN (n + i) (a * 2 ^ i) = crcN n a
  | 0 => by simp
  | i + 1 => by
    have e : a * 2 ^ (i + 1) = (a * 2 ^ i) * 2 := by rw [Nat.pow_succ, Nat.mul_assoc]
    have e2 : crcN 1 ((a * 2 ^ i) * 2) = a * 2 ^ i := step_double _
    rw [← Nat.add_assoc, crcN_add, e, e2, crcN_shift a n i]
theorem crcN_comm (a b c : Nat) : crcN a (crcN b c) = crcN b (crcN a c) := by rw [← crcN_add, ← crcN_add, Nat.add_comm]
def prK : Nat → Nat → Nat → Nat
  | 0, _, _ => 0
  | p + 1, a, b => if b / 2 ^ p % 2 = 1 then prK p a b ^^^ crcN (31 - p) a else prK p a b
theorem prK_eq (a b : Nat) : ∀ p, p ≤ 32 → crcN 32 (prodN p a b) = prK p a b
  | 0, _ => crcN_zero 32
  | p + 1, h => by
    have ih := prK_eq a b p (by omega)
    unfold prodN prK
    split
    · have e : 32 = (31 - p) + (p + 1) := by omega
      have e2 : crcN 32 (a * 2 ^ (p + 1)) = crcN (31 - p) a := by
        conv => lhs; rw [e]
        exact crcN_shift a (31 - p) (p + 1)
      rw [crcN_xor, ih, e2]
    · exact ih
theorem prK_crc (n a b : Nat) : ∀ p, prK p (crcN n a) b = crcN n (prK p a b)
  | 0 => (crcN_zero n).symm
  | p + 1 => by
    unfold prK
    rw [prK_crc n a b p]
    split
    · rw [crcN_xor, crcN_comm]
    · rfl
theorem prK_xor (q a b : Nat) : ∀ p, prK p q (a ^^^ b) = prK p q a ^^^ prK p q b
  | 0 => by simp [prK]
  | p + 1 => by
    unfold prK
    rw [prK_xor q a b p]
    have e := bit_xor a b p
    rcases Nat.mod_two_eq_zero_or_one (a / 2 ^ p) with x | x <;> rcases Nat.mod_two_eq_zero_or_one (b / 2 ^ p) with y | y <;> simp only [x, y] at e <;> simp only [x, y, e]
    · simp
    · simp [Nat.xor_assoc]
    · simp only [show ¬ (0 : Nat) = 1 by decide, if_false, if_true]
      rw [Nat.xor_assoc, Nat.xor_assoc, Nat.xor_comm (prK p q b)]
    · simp only [show ¬ ((1 + 1) % 2 : Nat) = 1 by decide, if_false, if_true]
      rw [Nat.xor_assoc, ← Nat.xor_assoc (crcN (31 - p) q), Nat.xor_comm (crcN (31 - p) q), Nat.xor_assoc (prK p q b), Nat.xor_self, Nat.xor_zero]
theorem prK_bits : ∀ i : Fin 32, prK 32 2147483648 (2 ^ i.val) = 2 ^ i.val := by decide +kernel
theorem prK_none : ∀ p q, prK p q 0 = 0
  | 0, _ => rfl
  | p + 1, q => by unfold prK; rw [prK_none p q]; simp
theorem prK_one {b : Nat} (h : b < 4294967296) : prK 32 2147483648 b = b :=
  lin_ext (f := prK 32 2147483648) (g := id) (fun a b => prK_xor _ a b 32) (fun _ _ => rfl) (prK_none 32 _) 32 (fun i hi => prK_bits ⟨i, hi⟩) b h
theorem prod_walk {n x : Nat} (hx : x < 4294967296) : prodI ((crcN n 2147483648 : Nat) : Int) ((x : Nat) : Int) = ((crcN n x : Nat) : Int) := by
  unfold prodI
  rw [genIt_cast, Int.toNat_natCast, Int.toNat_natCast]
  show ((crcN 32 (prodN 32 (crcN n 2147483648) x) : Nat) : Int) = _
  rw [prK_eq _ _ 32 (by decide), prK_crc, prK_one hx]
theorem walkL_nonneg (ls : List Int) : 0 ≤ walkL ls := by
  rcases List.eq_nil_or_concat ls with rfl | ⟨l, d, rfl⟩
  · decide
  · rw [List.concat_eq_append, walkL_snoc]
    exact genIt_nonneg (leapI_nonneg _) _
theorem walkL_lt {n : Int} (h0 : 0 ≤ n) (h1 : n < 18446744073709551616) : walkL (apI n) < 4294967296 := by
  rw [walk_at_ h0 h1]
  have := crcN_lt (c := 2147483648) (by decide) (8 * n.toNat)
  omega
theorem home_all : walkL (apI 4294967295) = 2147483648 := by decide +kernel
theorem home_crc : crcN (8 * 4294967295) 2147483648 = 2147483648 := by
  have h := walk_at_ (n := 4294967295) (by decide) (by decide)
  rw [home_all] at h
  have e : (8 * (4294967295 : Int).toNat) = 8 * 4294967295 := by decide
  rw [e] at h
  exact (Int.ofNat.inj h).symm
theorem home_more (r : Nat) : ∀ q, crcN (8 * (4294967295 * q + r)) 2147483648 = crcN (8 * r) 2147483648
  | 0 => by simp
  | q + 1 => by
    have e : 8 * (4294967295 * (q + 1) + r) = 8 * (4294967295 * q + r) + 8 * 4294967295 := by omega
    rw [e, crcN_add, home_crc, home_more r q]
def gL : List Int := [2 ^ Int.toNat 31, 2054523987, 1027827457, 3108140409]
theorem mov_fifteen : ∀ d : Fin 46, movN 19 d.val = movN 19 (d.val % 15) := by decide +kernel
theorem mix_fifteen : ∀ j : Fin 15, mixN gL (movN 19 j.val) 4 = walkL (apI ((j.val : Int) * 286331153)) := by decide +kernel
def dsum (n : Int) : Int := (List.map (fun k9 : Int => k9 - 65) (apI n)).sum
theorem digs_sum : ∀ (f n : Nat), n < 16 ^ f → 0 ≤ (List.map (fun k9 : Int => k9 - 65) (digs f n)).sum ∧ (List.map (fun k9 : Int => k9 - 65) (digs f n)).sum ≤ 15 * (f : Int) ∧ ∃ q : Int, (n : Int) = (List.map (fun k9 : Int => k9 - 65) (digs f n)).sum + 15 * q
  | 0, n, h => by
    have : n = 0 := by simpa using h
    subst this
    exact ⟨by decide, by decide, 0, by decide⟩
  | f + 1, n, h => by
    unfold digs
    split
    · rename_i e
      subst e
      exact ⟨by simp, by simp; try omega, 0, by simp⟩
    · have h2 : n / 16 < 16 ^ f := by rw [Nat.pow_succ] at h; omega
      obtain ⟨a, b, q, e⟩ := digs_sum f (n / 16) h2
      rw [List.map_append, List.sum_append]
      have e5 : (List.map (fun k9 : Int => k9 - 65) [((n % 16 : Nat) : Int) + 65]).sum = ((n % 16 : Nat) : Int) := by simp
      rw [e5]
      refine ⟨by omega, by omega, q + ((n / 16 : Nat) : Int), ?_⟩
      omega
theorem dsum_bnd {n : Int} (h0 : 0 ≤ n) (h1 : n < 4096) : 0 ≤ dsum n ∧ dsum n ≤ 45 ∧ (dsum n).toNat % 15 = n.toNat % 15 := by
  have hn : n.natAbs = n.toNat := by omega
  have e : dsum n = (List.map (fun k9 : Int => k9 - 65) (digs 3 n.toNat)).sum := by
    unfold dsum apI
    rw [hn, digs_ge (f := 3) (g := 16) (by decide) (by have : (16 : Nat) ^ 3 = 4096 := by decide
                                                       omega)]
  obtain ⟨a, b, q, c⟩ := digs_sum 3 n.toNat (by have : (16 : Nat) ^ 3 = 4096 := by decide
                                                omega)
  rw [← e] at a b c
  refine ⟨a, by omega, ?_⟩
  omega
theorem cast_mul_toNat (a k : Nat) : ((a : Int) * (k : Int)).toNat = a * k := by rw [← Int.natCast_mul, Int.toNat_natCast]
theorem lit_g : (286331153 : Int) = ((286331153 : Nat) : Int) := rfl
theorem fifteen_split (n k q : Nat) (h : q = 15 * k) : n * k = q * (n / 15) + n % 15 * k := by
  subst h
  have : n = 15 * (n / 15) + n % 15 := by omega
  conv => lhs; rw [this]
  rw [Nat.add_mul, Nat.mul_assoc 15 (n / 15) k, Nat.mul_comm (n / 15) k, ← Nat.mul_assoc]
theorem mix_often {n : Nat} : mixN gL (movN 19 (n % 15)) 4 = ((crcN (8 * (n * 286331153)) 2147483648 : Nat) : Int) := by
  have hj : n % 15 < 15 := Nat.mod_lt _ (by decide)
  have h15 : mixN gL (movN 19 (n % 15)) 4 = walkL (apI (((n % 15 : Nat) : Int) * 286331153)) := mix_fifteen ⟨n % 15, hj⟩
  rw [h15, lit_g, ← Int.natCast_mul]
  have hb : n % 15 * 286331153 < 18446744073709551616 := Nat.lt_of_le_of_lt (Nat.mul_le_mul_right _ (Nat.le_of_lt hj)) (by decide)
  rw [walk_at_ (Int.natCast_nonneg _) (show _ < ((18446744073709551616 : Nat) : Int) from Int.ofNat_lt.mpr hb), Int.toNat_natCast]
  rw [fifteen_split n 286331153 4294967295 (by decide), home_more]
theorem apI_neg (n : Int) : apI (-n) = apI n := by unfold apI; rw [Int.natAbs_neg]
theorem law2_nat (a b : Nat) (h : a + b * 286331153 < 18446744073709551616) (ha : a < 18446744073709551616) :
    walkL (apI ((a : Int) + (b : Int) * 286331153)) = prodI (walkL (apI (a : Int))) (mixN gL (movN 19 (b % 15)) 4) := by
  rw [mix_often, lit_g, ← Int.natCast_mul, ← Int.natCast_add]
  rw [walk_at_ (Int.natCast_nonneg _) (show _ < ((18446744073709551616 : Nat) : Int) from Int.ofNat_lt.mpr h), walk_at_ (Int.natCast_nonneg _) (show _ < ((18446744073709551616 : Nat) : Int) from Int.ofNat_lt.mpr ha), Int.toNat_natCast, Int.toNat_natCast]
  rw [prod_walk (crcN_lt (by decide) _), ← crcN_add, Nat.mul_add]
theorem law2_end {low often : Int} (h0 : 0 ≤ low) (h1 : low < 4096) (h2 : 0 ≤ often) (h3 : often < 4093) :
    walkL (apI (-(low + often * 286331153))) = prodI (walkL (apI low)) (mixN gL (movN 19 (dsum often).toNat) 4) := by
  obtain ⟨d0, d1, d2⟩ := dsum_bnd h2 (by omega)
  have em : movN 19 (dsum often).toNat = movN 19 (often.toNat % 15) := by
    rw [← d2]
    exact mov_fifteen ⟨(dsum often).toNat, by omega⟩
  rw [em, apI_neg]
  have hb : low.toNat + often.toNat * 286331153 < 18446744073709551616 := by
    have h5 : often.toNat ≤ 4093 := by omega
    have h6 : low.toNat ≤ 4096 := by omega
    exact Nat.lt_of_le_of_lt (Nat.add_le_add h6 (Nat.mul_le_mul_right _ h5)) (by decide)
  have := law2_nat low.toNat often.toNat hb (by omega)
  rw [Int.toNat_of_nonneg h0, Int.toNat_of_nonneg h2] at this
  exact this
theorem walk_g : walkL (apI 286331153) = 2054523987 := by decide +kernel
theorem prod_g1 : prodI 2054523987 2054523987 = 1027827457 := by decide +kernel
theorem prod_g2 : prodI 2054523987 1027827457 = 3108140409 := by decide +kernel
theorem prod_g3 : prodI 1027827457 1027827457 = 4202007635 := by decide +kernel
end Mine
end
section
open PySem PySem.W PyProof.Rows
namespace Mine
set_option maxRecDepth 100000 in
set_option maxHeartbeats 8000000 in
open_top hd for PySem.Challenge.rw_pe0016_02
end Mine
end
section
open PySem PySem.W PyProof.Rows PySem.Calls PySem.Spec
namespace Mine
/-- to walk through v gives the ints ks, and all that stood before stands on -/
def Feeds (prog : Program) (w : World) (A : Around) (v : Value) (ks : List Int) (s : Shared) : Prop :=
  ∀ (K E : Value → Shared → Prop),
    (∀ (o : Obj) (fp : List Addr) (P : Nat → Value → Prop) (St : Nat → Heap → Prop), Walks prog w A s.heap.objs.size fp [s.heap.objs.size] ks.length P St → St 0 (s.heap.push o) →
      (∀ a ∈ fp, a ≤ s.heap.objs.size) → (∀ j u, P j u → ∃ k t, ks[j]? = some k ∧ u = .int k t) → K (.ref s.heap.objs.size) { s with heap := s.heap.push o }) →
    wpAny (model prog w) A (pyIter v) K E s
section
variable {prog : Program} {w : World} {A : Around} {s : Shared} {ks : List Int}
theorem feeds_bytes {b : Array UInt8} {t : Tok} (hh : A.handled = none) (hk : KBw.bInts b = ks) : Feeds prog w A (.bytes b t) ks s := by
  intro K E hK
  have W := KBw.walks (prog := prog) (w := w) hh s.heap.objs.size b t
  rw [← KBw.ints_length, hk] at W
  refine KBw.pyIter_bytes (hK _ _ _ _ W ⟨_, Heap.get?_push_size _ rfl, rfl, rfl⟩ (fun a ha => ?_) ?_)
  · exact Nat.le_of_eq (List.mem_singleton.mp ha)
  · rintro j u ⟨c, t', hc, rfl⟩
    exact ⟨_, t', hk ▸ KBw.ints_get hc, rfl⟩
theorem feeds_tuple {h₀ : Heap} {L ax : Addr} {vs : List Value} {nn : Nat} {news : List (Addr × Obj)} (hh : A.handled = none) (N : News h₀ L s.heap news)
    (hm : (ax, ({ cls := .type "tuple", data := .seq vs.toArray nn } : Obj)) ∈ news) (hi : IntsAre vs ks) : Feeds prog w A (.ref ax) ks s := by
  intro K E hK
  have here := (N _ hm).1
  have old : ax < s.heap.objs.size := Heap.lt_size here
  have W := Walks.tuple (prog := prog) (w := w) hh s.heap.objs.size ax (Nat.ne_of_lt old) vs.toArray
  rw [show vs.toArray.size = ks.length from hi.length] at W
  refine wpAny_pyIter_tuple ⟨_, here, rfl, nn, rfl⟩ (hK _ _ _ _ W ⟨⟨_, Heap.get?_push_size _ rfl, rfl, rfl⟩, _, Heap.get?_push_of_some _ here, rfl, nn, rfl⟩ (fun a ha => ?_) fun j u hu => ?_)
  · rcases List.mem_cons.mp ha with e | ha
    · exact Nat.le_of_eq e
    · exact Nat.le_of_lt (List.mem_singleton.mp ha ▸ old)
  · obtain ⟨k, t, e, hk⟩ := hi.at j u (by simpa using hu)
    exact ⟨k, t, hk, e⟩
end
/-- a turn's end: the int n, and nothing of before is touched -/
def Gives (n : Int) (s : Shared) (v : Value) (s' : Shared) : Prop := (∃ t, v = .int n t) ∧ Keeps s s'
/-- what a comprehension of g's ints wants of the value v that it goes through; fin is what is wanted behind it -/
def Each (prog : Program) (w : World) (A : Around) (h₀ : Heap) (L : Addr) (m : Str → Option Value) (elt : Expr) (own : Addr → Env) (x : Str) (g : Int → Int) (fin : Shared → List Int → List (Addr × Obj) → Prop) (v : Value) (s : Shared) : Prop :=
  ∃ ks news, Feeds prog w A v ks s ∧ ks.length ≤ sizeLine ∧ Fr h₀ L s.heap m ∧ News h₀ L s.heap news ∧
    (∀ (k : Int) (t : Tok) (C : Addr) (oC : Obj) (m₂ : Str → Option Value) (E' : Value → Shared → Prop) (s₂ : Shared), k ∈ ks → LCg.NsObj oC m₂ → m₂ x = some (.int k t) → Fr h₀ L s₂.heap m → News h₀ L s₂.heap ((C, oC) :: news) →
      wpAny (model prog w) A (eval elt (own C)) (Gives (g k) s₂) E' s₂) ∧ fin s (ks.map g) news
/-- behind a comprehension that is a value -/
def MadeE (h₀ : Heap) (L : Addr) (m : Str → Option Value) (Q : Value → Shared → Prop) (s : Shared) (ns : List Int) (news : List (Addr × Obj)) : Prop :=
  ∀ (D : Addr) (vs : List Value) (nn : Nat) (h : Heap) (tk : Nat), IntsAre vs ns → Fr h₀ L h m → News h₀ L h ((D, listOf vs.toArray nn) :: news) → (∀ p ∈ news, p.1 ≠ D) → Q (.ref D) { s with heap := h, toks := tk }
/-- behind a comprehension that a name is bound to -/
def MadeA (h₀ : Heap) (L : Addr) (m : Str → Option Value) (y : Str) (Q : Flow → Shared → Prop) (s : Shared) (ns : List Int) (news : List (Addr × Obj)) : Prop :=
  ∀ (D : Addr) (vs : List Value) (nn : Nat) (h : Heap) (tk : Nat), IntsAre vs ns → Fr h₀ L h (fun z => if z = y then some (.ref D) else m z) → News h₀ L h ((D, listOf vs.toArray nn) :: news) → (∀ p ∈ news, p.1 ≠ D) → Q .next { s with heap := h, toks := tk }
def Turn (g : Int → Int) (v y : Value) : Prop := ∃ k t u, v = .int k t ∧ y = .int (g k) u
theorem turns_ints {g : Int → Int} : ∀ {vs ys : List Value} {ks : List Int}, vs.length = ks.length → (∀ (j : Nat) (v : Value), vs[j]? = some v → ∃ k t, ks[j]? = some k ∧ v = .int k t) → Paired (Turn g) vs ys → IntsAre ys (ks.map g)
  | [], _, [], _, _, .nil => .nil
  | _ :: _, _, [], hl, _, _ => nomatch hl
  | v :: vs, _, k :: ks, hl, hv, .cons ⟨k₁, _, u, e₁, e₂⟩ r => by
    obtain ⟨k₂, _, e₃, e₄⟩ := hv 0 v rfl
    cases e₁.symm.trans e₄
    cases e₃
    subst e₂
    exact .cons _ u (turns_ints (Nat.succ.inj hl) (fun j => hv (j + 1)) r)
end Mine
end
section
open PySem PySem.W PyProof.Rows PySem.Calls PySem.Spec
namespace Mine
section
variable {prog : Program} {w : World} {A : Around} {E : Value → Shared → Prop} {s₁ s : Shared} {h₀ : Heap} {L : Addr} {m : Str → Option Value} {env : Env} {elt iter : Expr} {x y : Str} {scope : Scope} {cl : List (Str × Addr)} {g : Int → Int} {o : Obj} {news : List (Addr × Obj)} {ks : List Int}
theorem old_kept {h' : Heap} {a : Addr} {q : Obj} (hk : ∀ b p, b ∉ [s₁.heap.objs.size] → (s₁.heap.push o).get? b = some p → h'.get? b = some p) (e : s₁.heap.get? a = some q) : h'.get? a = some q :=
  hk a q (fun hm => Nat.lt_irrefl _ (List.mem_singleton.mp hm ▸ Heap.lt_size e)) (Heap.get?_push_of_some _ e)
/-- a turn of an Each, as the library's rule for any walk wants it -/
theorem each_turn {P : Nat → Value → Prop} (F : Fr h₀ L s₁.heap m) (N : News h₀ L s₁.heap news) (hP : ∀ j u, P j u → ∃ k t, ks[j]? = some k ∧ u = .int k t)
    (turn : ∀ (k : Int) (t : Tok) (C : Addr) (oC : Obj) (m₂ : Str → Option Value) (E' : Value → Shared → Prop) (s₂ : Shared), k ∈ ks → LCg.NsObj oC m₂ → m₂ x = some (.int k t) → Fr h₀ L s₂.heap m → News h₀ L s₂.heap ((C, oC) :: news) →
      wpAny (model prog w) A (eval elt (compEnvC scope cl C env)) (Gives (g k) s₂) E' s₂) :
    QuietOnC prog w A env scope cl x [] elt [s₁.heap.objs.size] P (fun _ => true) (Turn g) { s₁ with heap := s₁.heap.push o } where
  tests := fun _ _ _ _ _ _ _ _ _ _ _ _ => wpAny_tests_nil ⟨rfl, _, _, rfl, fun _ _ e => e⟩
  elt := fun C j v s₂ m₂ E' hC hv _ hn hx hk _ => by
    obtain ⟨k, t, hj, rfl⟩ := hP j v hv
    obtain ⟨oC, own, hoC⟩ := LCg.ns_obj hn
    have up : s₁.heap.objs.size < C := Nat.lt_of_lt_of_le (by rw [Heap.size_push]; exact Nat.lt_succ_self _) hC
    have above : L < C := Nat.lt_trans F.ns.lt up
    refine wpAny_mono (turn k t C oC m₂ E' s₂ (List.mem_of_getElem? hj) hoC hx (F.keeps fun _ _ e => old_kept hk e) fun p hp => ?_) (fun r _ ⟨⟨u, e⟩, q⟩ => ⟨⟨k, t, u, rfl, e⟩, q⟩) fun _ _ e => e
    rcases List.mem_cons.mp hp with e | hp
    · subst e
      exact ⟨own, Nat.ne_of_gt above, Heap.get?_none_of_le (Nat.le_trans F.above (Nat.le_of_lt above))⟩
    · exact N.grown (fun _ _ e => old_kept hk e) p hp
/-- the made list in the ledger -/
theorem each_ledger {h' : Heap} {D : Addr} {ys : Array Value} (F : Fr h₀ L s₁.heap m) (N : News h₀ L s₁.heap news) (hD : (s₁.heap.push o).get? D = none) (hl : h'.PlainList D ys)
    (hk : ∀ b p, b ≠ L → s₁.heap.get? b = some p → h'.get? b = some p) : (∃ nn, News h₀ L h' ((D, listOf ys nn) :: news)) ∧ ∀ p ∈ news, p.1 ≠ D := by
  have new : ∀ {a : Addr} {q : Obj}, s₁.heap.get? a = some q → a ≠ D := by
    rintro a q e rfl
    rw [Heap.get?_push_of_some _ e] at hD
    cases hD
  obtain ⟨nn, hnn⟩ := hl
  obtain ⟨oL, _, _, heL, _⟩ := F.ns
  refine ⟨⟨nn, fun p hp => ?_⟩, fun p hp => new (N p hp).1⟩
  rcases List.mem_cons.mp hp with e | hp
  · subst e
    refine ⟨hnn, (new heL).symm, ?_⟩
    cases e : h₀.get? D with
    | none => rfl
    | some q => exact absurd rfl (new (F.keep _ _ e))
  · exact ⟨hk _ _ (N p hp).2.1 (N p hp).1, (N p hp).2⟩
/-- [elt for x in iter], elt an int of an int -/
theorem eval_each {px pos : Pos} {Q : Value → Shared → Prop} (g : Int → Int) (_ : Fr h₀ L s.heap m)
    (names : closureFor scope env = pure cl ∧ scope.kind = .function ∧ (∀ z ∈ scope.names, z.2 ≠ .cell ∧ (z.2 = .local → scope.names.lookup z.1 = some .local)) ∧ scope.names.lookup x = some .local) (plain : ∀ v, foldedSetIterable iter env v = pure v)
    (h : wpAny (model prog w) A (eval iter env) (Each prog w A h₀ L m elt (compEnvC scope cl · env) x g (MadeE h₀ L m Q)) E s) :
    wpAny (model prog w) A (eval (.ListComp elt [⟨.Name x px, iter, [], 0⟩] scope pos) env) Q E s := by
  obtain ⟨n1, n2, n3, n4⟩ := names
  refine wpAny_ListComp_free (fun _ => true) (Turn g) n1 (fun z hz => (n3 z hz).1) n2 (fun z hz => (n3 z hz).2) n4 (wpAny_mono h (fun v s₁ hv => ?_) fun _ _ e => e) plain
  obtain ⟨ks, news, feeds, room, F, N, turn, fin⟩ := hv
  refine feeds _ E fun o fp P St W st hfp hP => ⟨_, fp, _, _, P, St, rfl, W, room, st, fun a ha => ?_, each_turn F N hP turn, ?_⟩
  · exact Nat.lt_of_le_of_lt (hfp a ha) (Heap.size_push s₁.heap o ▸ Nat.lt_succ_self _)
  · intro D h' tk ys vs hD _ hl hn hv pairs hk
    have keep : ∀ b p, s₁.heap.get? b = some p → h'.get? b = some p := fun _ _ e => old_kept hk e
    obtain ⟨⟨nn, N'⟩, off⟩ := each_ledger F N hD hl fun b p _ e => keep b p e
    rw [List.filter_eq_self.mpr fun _ _ => rfl] at pairs
    exact fin D ys.toList nn h' tk (turns_ints hn (fun j u hj => hP j u (hv j u hj)) pairs) (F.keeps keep) N' off
/-- y = [elt for x in iter] -/
theorem assign_each {px py pos spos : Pos} {Q : Flow → Shared → Prop} (g : Int → Int) (_ : Fr h₀ L s.heap m) (hL : env.locals = L)
    (names : closureFor scope env = pure cl ∧ scope.kind = .function ∧ (∀ z ∈ scope.names, z.2 ≠ .cell ∧ (z.2 = .local → scope.names.lookup z.1 = some .local)) ∧ scope.names.lookup x = some .local) (plain : ∀ v, foldedSetIterable iter env v = pure v)
    (swaps : swapsWith (.ListComp elt [⟨.Name x px, iter, [], 0⟩] scope pos) (some (.Name y py)) spos.line env = pure true)
    (bound : env.kindOf y = some .local ∧ (env.scope.kind == .class || (env.scope.kind == .module && env.locals != env.globals)) = false)
    (h : wpAny (model prog w) A (eval iter env) (Each prog w A h₀ L m elt (compEnvC scope cl · env) x g (MadeA h₀ L m y Q)) E s) :
    wpAny (model prog w) A (exec (.Assign [.Name y py] (.ListComp elt [⟨.Name x px, iter, [], 0⟩] scope pos) spos) env) Q E s := by
  obtain ⟨n1, n2, n3, n4⟩ := names
  subst hL
  refine wpAny_Assign_ListComp_free (fun _ => true) (Turn g) swaps n1 (fun z hz => (n3 z hz).1) n2 (fun z hz => (n3 z hz).2) n4 bound.1 bound.2 (wpAny_mono h (fun v s₁ hv => ?_) fun _ _ e => e) plain
  obtain ⟨ks, news, feeds, room, F, N, turn, fin⟩ := hv
  have own : env.locals ∉ [s₁.heap.objs.size] := fun hm => Nat.lt_irrefl _ (List.mem_singleton.mp hm ▸ F.ns.lt)
  refine feeds _ E fun o fp P St W st hfp hP => ⟨_, fp, _, _, P, St, m, rfl, W, room, st, fun a ha => ?_, own, (F.push o).ns, each_turn F N hP turn, ?_⟩
  · exact Nat.lt_of_le_of_lt (hfp a ha) (Heap.size_push s₁.heap o ▸ Nat.lt_succ_self _)
  · intro D h' tk ys vs hD _ hl hn hv pairs ns hk
    have keep : ∀ b p, b ≠ env.locals → s₁.heap.get? b = some p → h'.get? b = some p := fun b p hb e => hk b p hb (fun hm => Nat.lt_irrefl _ (List.mem_singleton.mp hm ▸ Heap.lt_size e)) (Heap.get?_push_of_some _ e)
    obtain ⟨⟨nn, N'⟩, off⟩ := each_ledger F N hD hl keep
    rw [List.filter_eq_self.mpr fun _ _ => rfl] at pairs
    refine fin D ys.toList nn h' tk (turns_ints hn (fun j u hj => hP j u (hv j u hj)) pairs) ⟨ns, fun b p e => keep b p ?_ (F.keep b p e), F.above⟩ N' off
    exact Nat.ne_of_lt (Nat.lt_of_lt_of_le (Heap.lt_size e) F.above)
theorem each_of {own : Addr → Env} {fin : Shared → List Int → List (Addr × Obj) → Prop} {v : Value} (feeds : Feeds prog w A v ks s) (room : ks.length ≤ 16777216) (F : Fr h₀ L s.heap m) (N : News h₀ L s.heap news)
    (turn : ∀ (k : Int) (t : Tok) (C : Addr) (oC : Obj) (m₂ : Str → Option Value) (E' : Value → Shared → Prop) (s₂ : Shared), k ∈ ks → LCg.NsObj oC m₂ → m₂ x = some (.int k t) → Fr h₀ L s₂.heap m → News h₀ L s₂.heap ((C, oC) :: news) →
      wpAny (model prog w) A (eval elt (own C)) (Gives (g k) s₂) E' s₂) (behind : fin s (ks.map g) news) : Each prog w A h₀ L m elt own x g fin v s :=
  ⟨ks, news, feeds, sizeLine_eq ▸ room, F, N, turn, behind⟩
end
end Mine
end
section
open PySem PySem.W PyProof.Rows PySem.Calls
namespace Mine
theorem gen_end {v x : Int} (h : x = ((crcN (rangeKs 0 8).length v.toNat : Nat) : Int)) : x = genI v := h
/-- who calls: its frame, what it has made, and that it stands in a def -/
structure Caller (news : List (Addr × Obj)) (cs : Scope) (outer : List Env) (A₀ : Around) (base h₀ : Heap) (L : Addr) (m : Str → Option Value) (s : Shared) : Prop where
  under : Below A₀ base outer h₀
  frame : Fr h₀ L s.heap m
  made : News h₀ L s.heap news
  inDef : cs.kind = .function
/-- the contract of the def at f, k calls deep at most: R is what a caller may lean on -/
abbrev Claim1 (w : World) (mean : ExcName → Option Value) (mg mb : Str → Option Value) (k : Nat) (f : Addr) (news : List (Addr × Obj)) (vs : List Value)
    (R : Heap → Addr → (Str → Option Value) → Shared → (Value → Shared → Prop) → Prop) : Prop :=
  ∀ {L : Addr} {m : Str → Option Value} {s : Shared} {h₀ base : Heap} {outer : List Env} {A₀ : Around} {cs : Scope} {dp un : Nat} {gd : Option (List Code)} {cn : Str} {a : Addr} {ccd : Value}
    {cl : List (Str × Addr)} {Q E : Value → Shared → Prop}, Caller news cs outer A₀ base h₀ L m s → Frag.In (hd.heap_39 w.params) h₀ → Top hd.view_39 (looseW hd.view_39 []) mean mg mb h₀ →
    dp + k < recursionLimit → un + 8 * k < cLine → R h₀ L m s Q → wpAny (model Challenge.rw_pe0016_02.row.prog w) (ktrTop dp un gd cn cs L a ccd cl outer) (call (.ref f) vs) Q E s

abbrev RInt (news : List (Addr × Obj)) (x : Int) (h₀ : Heap) (L : Addr) (m : Str → Option Value) (s : Shared) (Q : Value → Shared → Prop) : Prop :=
  ∀ (t : Tok) (h' : Heap) (tk' : Nat), Fr h₀ L h' m → News h₀ L h' news → Q (.int x t) { s with heap := h', toks := tk' }

set_option maxHeartbeats 4000000 in
theorem gen_c (w : World) (mean : ExcName → Option Value) (mg mb : Str → Option Value) (news : List (Addr × Obj)) (v : Int) (t : Tok) (hv : 0 ≤ v) :
    Claim1 w mean mg mb 2 28 news [.int v t] (RInt news (genI v)) := by
  w_on
  unfold Claim1
  k_fill
  k_with_none
  (k_with "exec For Name Call cons nil" => kpr_for)
  (k_with "pyIter ref" => k_state_short (fun pre crc => crc = ((crcN pre.length v.toNat : Nat) : Int)) "crc")
  (k_with "state" => first | exact gen_start (by assumption) | exact gen_odd (by assumption) (by assumption) | exact gen_even (by assumption) (by assumption))
  intro L m s h₀ base outer A₀ cs dp un gd cn a ccd cl Q E ⟨B, F, N, hk⟩ X T hdp hu hret
  refine wpAny_call ?_
  k_dflt cell_enter
  k_steps
  all_goals exact cb_retI hret (gen_end (by assumption)) (by k_asm) (by k_asm)
end Mine
end
section
open PySem PySem.W PyProof.Rows PySem.Calls
namespace Mine
abbrev RBytes (news : List (Addr × Obj)) (ks : List Int) (h₀ : Heap) (L : Addr) (m : Str → Option Value) (s : Shared) (Q : Value → Shared → Prop) : Prop :=
  ∀ (b : Array UInt8) (t : Tok) (h' : Heap) (tk' : Nat), KBw.bInts b = ks → Fr h₀ L h' m → News h₀ L h' news → Q (.bytes b t) { s with heap := h', toks := tk' }

local macro_rules | `(tactic| kba_ints) => `(tactic| exact KBw.ints_list _)
local macro_rules | `(tactic| walk_at "binaryOp Add bytes bytes") => `(tactic| (k_here; (refine KBa.add_K (ap_pick _) rfl (ap_room (by assumption)) ?_); intro _ _ kbaApp))
set_option maxHeartbeats 4000000 in
theorem ap_c (w : World) (mean : ExcName → Option Value) (mg mb : Str → Option Value) (news : List (Addr × Obj)) (v : Int) (t : Tok) (h1 : -18446744073709551616 < v) (h2 : v < 18446744073709551616) :
    Claim1 w mean mg mb 2 21 news [.int v t] (RBytes news (apI v)) := by
  w_on
  unfold Claim1
  k_fill
  k_with_none
  (k_with "exec While" => k_while (fun _ num val => ApInv v num val) (fun _ num _ => num.toNat) "num" "val")
  (k_with "exec While Name cons nil" => k_while (fun _ num val => ApInv v num val) (fun _ num _ => num.toNat) "num" "val")
  (k_with "state" => first | exact ap_turn (by assumption) (by assumption) | exact ap_start (by assumption) (by assumption))
  (k_with "measure" => exact ap_less (by assumption) (by assumption))
  intro L m s h₀ base outer A₀ cs dp un gd cn a ccd cl Q E ⟨B, F, N, hk⟩ X T hdp hu hret
  refine wpAny_call ?_
  k_dflt cell_enter
  k_steps
  all_goals exact hret _ _ _ _ (ap_end (by assumption) (by assumption)) (by k_asm) (by k_asm)
end Mine
end
section
open PySem PySem.W PyProof.Rows PySem.Calls
namespace Mine
local macro_rules | `(tactic| walk_at "no such key") => `(tactic| fail)
local macro_rules | `(tactic| walk_at "subscriptTail") => `(tactic| (k_here; (with_reducible show wpAny _ _ (subscriptTail _ _ (Value.ref _) (Value.int _ _)) _ _ _); k_dflt (refine' item_anyK (ns := pwI) ?k1 ?k2 ?k3 ?k4 ?k5 ?_; (case k1 => exact News.isList (by k_asm) (by kst_mem)); (case k2 => assumption); (case k3 => omega); (case k4 => (rw [pwI_length]; omega)); (case k5 => omega); k_whole); intro _))
set_option maxHeartbeats 4000000 in
theorem leap_c (w : World) (mean : ExcName → Option Value) (mg mb : Str → Option Value) (news : List (Addr × Obj)) (v : Int) (t : Tok) (l : Addr) (vs : List Value) (nn : Nat)
    (hl : (l, listOf vs.toArray nn) ∈ news) (hi : IntsAre vs pwI) (hv : 0 ≤ v) :
    Claim1 w mean mg mb 2 49 news [.int v t, .ref l] (RInt news (leapI v)) := by
  w_on
  unfold Claim1
  k_fill
  k_with_none
  (k_with "exec For Name Call cons nil" => kpr_for)
  (k_with "pyIter ref" => k_state_short (fun pre total => total = ((leapN pre.length v.toNat : Nat) : Int)) "total")
  (k_with "state" => first | exact leap_start | exact leap_one (by assumption) (by assumption) (by assumption) (by assumption) (by assumption) | exact leap_none (by assumption) (by assumption) (by assumption) (by assumption) (by assumption))
  intro L m s h₀ base outer A₀ cs dp un gd cn a ccd cl Q E ⟨B, F, N, hk⟩ X T hdp hu hret
  refine wpAny_call ?_
  k_dflt cell_enter
  k_steps
  all_goals exact cb_retI hret (leap_end (by assumption)) (by k_asm) (by k_asm)
end Mine
end
section
open PySem PySem.W PyProof.Rows PySem.Calls
namespace Mine
section
variable {w : World} {mean : ExcName → Option Value} {mg mb : Str → Option Value} {news : List (Addr × Obj)} {v : Int} {t : Tok} {l : Addr} {vs : List Value} {nn : Nat}
  {dp un : Nat} {gd : Option (List Code)} {cn : Str} {cs : Scope} {a : Addr} {ccd : Value} {cl : List (Str × Addr)} {outer : List Env} {A₀ : Around} {base h₀ : Heap} {L : Addr} {m : Str → Option Value} {s : Shared} {Q E : Value → Shared → Prop}
theorem gen_r (B : Below A₀ base outer h₀) (F : Fr h₀ L s.heap m) (X : Frag.In (hd.heap_39 w.params) h₀) (N : News h₀ L s.heap news) (T : Top hd.view_39 (looseW hd.view_39 []) mean mg mb h₀) (hk : cs.kind = .function)
    (hd : dp + 2 < recursionLimit) (hu : un + 8 * 2 < cLine) (hv : 0 ≤ v) (hret : RInt news (genI v) h₀ L m s Q) :
    wpAny (model Challenge.rw_pe0016_02.row.prog w) (ktrTop dp un gd cn cs L a ccd cl outer) (call (.ref 28) [.int v t]) Q E s :=
  gen_c w mean mg mb news v t hv ⟨B, F, N, hk⟩ X T hd hu hret
theorem ap_r (B : Below A₀ base outer h₀) (F : Fr h₀ L s.heap m) (X : Frag.In (hd.heap_39 w.params) h₀) (N : News h₀ L s.heap news) (T : Top hd.view_39 (looseW hd.view_39 []) mean mg mb h₀) (hk : cs.kind = .function)
    (hd : dp + 2 < recursionLimit) (hu : un + 8 * 2 < cLine) (h1 : -18446744073709551616 < v) (h2 : v < 18446744073709551616) (hret : RBytes news (apI v) h₀ L m s Q) :
    wpAny (model Challenge.rw_pe0016_02.row.prog w) (ktrTop dp un gd cn cs L a ccd cl outer) (call (.ref 21) [.int v t]) Q E s :=
  ap_c w mean mg mb news v t h1 h2 ⟨B, F, N, hk⟩ X T hd hu hret
theorem leap_r (B : Below A₀ base outer h₀) (F : Fr h₀ L s.heap m) (X : Frag.In (hd.heap_39 w.params) h₀) (N : News h₀ L s.heap news) (T : Top hd.view_39 (looseW hd.view_39 []) mean mg mb h₀) (hk : cs.kind = .function)
    (hd : dp + 2 < recursionLimit) (hu : un + 8 * 2 < cLine) (hl : (l, listOf vs.toArray nn) ∈ news) (hi : IntsAre vs pwI) (hv : 0 ≤ v) (hret : RInt news (leapI v) h₀ L m s Q) :
    wpAny (model Challenge.rw_pe0016_02.row.prog w) (ktrTop dp un gd cn cs L a ccd cl outer) (call (.ref 49) [.int v t, .ref l]) Q E s :=
  leap_c w mean mg mb news v t l vs nn hl hi hv ⟨B, F, N, hk⟩ X T hd hu hret
end
local macro_rules | `(tactic| walk_at "call ref") => `(tactic| (k_here; k_dflt (refine' gen_r ?k1 ?k2 ?k3 ?k4 ?k5 ?k6 ?k7 ?k8 ?k9 ?_; (case k1 => k_asm); (case k2 => k_asm); (case k3 => k_asm); (case k4 => k_asm); (case k5 => k_asm); (case k6 => first | exact rfl | assumption); (case k7 => ktr_room); (case k8 => ktr_units); (case k9 => first | exact GenInv.lo (by assumption)); intro t9 h9 tk9 F9 N9; (try dsimp only); (try k_fold))))
local macro_rules | `(tactic| walk_at "call ref") => `(tactic| (k_here; k_dflt (refine' ap_r ?k1 ?k2 ?k3 ?k4 ?k5 ?k6 ?k7 ?k8 ?k9 ?k10 ?_; (case k1 => k_asm); (case k2 => k_asm); (case k3 => k_asm); (case k4 => k_asm); (case k5 => k_asm); (case k6 => first | exact rfl | assumption); (case k7 => ktr_room); (case k8 => ktr_units); (case k9 => first | assumption | omega); (case k10 => first | assumption | omega); intro b9 t9 h9 tk9 kbaB F9 N9; (try dsimp only); (try k_fold))))
local macro_rules | `(tactic| walk_at "call ref") => `(tactic| (k_here; k_dflt (refine' leap_r ?k1 ?k2 ?k3 ?k4 ?k5 ?k6 ?k7 ?k8 ?k9 ?k10 ?k11 ?_; (case k1 => k_asm); (case k2 => k_asm); (case k3 => k_asm); (case k4 => k_asm); (case k5 => k_asm); (case k6 => first | exact rfl | assumption); (case k7 => ktr_room); (case k8 => ktr_units); (case k9 => kst_mem); (case k10 => assumption); (case k11 => first | exact WalkInv.lo (by assumption)); intro t9 h9 tk9 F9 N9; (try dsimp only); (try k_fold))))

set_option maxHeartbeats 4000000 in
theorem walk_c (w : World) (mean : ExcName → Option Value) (mg mb : Str → Option Value) (news : List (Addr × Obj)) (v : Int) (t : Tok) (l : Addr) (vs : List Value) (nn : Nat)
    (hl : (l, listOf vs.toArray nn) ∈ news) (hi : IntsAre vs pwI) (h1 : -18446744073709551616 < v) (h2 : v < 18446744073709551616) :
    Claim1 w mean mg mb 4 56 news [.int v t, .ref l] (RInt news (walkL (apI v))) := by
  w_on
  unfold Claim1
  k_fill
  k_with_none
  (k_with "exec For Name Call cons nil" => kpr_for)
  (k_with "pyIter bytes" => k_state (fun pre register => WalkInv pre register) "register")
  (k_with "pyIter ref" => k_state_given ["register!"] (fun r pre register => GenInv r pre register) "register")
  (k_with "state" => first | exact walk_start | exact gi_start | exact gi_turn (by assumption) | exact walk_turn (by assumption) (by assumption))
  intro L m s h₀ base outer A₀ cs dp un gd cn a ccd cl Q E ⟨B, F, N, hk⟩ X T hdp hu hret
  refine wpAny_call ?_
  k_dflt cell_enter
  k_steps
  all_goals exact cb_retI hret (WalkInv.eq (by assumption)) (by k_asm) (by k_asm)
end Mine
end
section
open PySem PySem.W PyProof.Rows PySem.Calls
namespace Mine
abbrev RList (news : List (Addr × Obj)) (ns : List Int) (h₀ : Heap) (L : Addr) (m : Str → Option Value) (s : Shared) (Q : Value → Shared → Prop) : Prop :=
  ∀ (l : Addr) (vs : List Value) (nn : Nat) (h' : Heap) (tk' : Nat), IntsAre vs ns → Fr h₀ L h' m → News h₀ L h' ((l, listOf vs.toArray nn) :: news) → (∀ p ∈ news, p.1 < l) → Q (.ref l) { s with heap := h', toks := tk' }

local macro_rules | `(tactic| kst_facts1) => `(tactic| exact IntsAre.cons _ _ IntsAre.nil)
local macro_rules | `(tactic| walk_at "call ref") => `(tactic| (k_here; k_dflt (refine' gen_r ?k1 ?k2 ?k3 ?k4 ?k5 ?k6 ?k7 ?k8 ?k9 ?_; (case k1 => k_asm); (case k2 => k_asm); (case k3 => k_asm); (case k4 => k_asm); (case k5 => k_asm); (case k6 => first | exact rfl | assumption); (case k7 => ktr_room); (case k8 => ktr_units); (case k9 => first | exact genI_nonneg _ | exact pow_lo (by assumption)); intro t9 h9 tk9 F9 N9; (try dsimp only); (try k_fold))))
theorem pow_ret {news : List (Addr × Obj)} {h₀ h' : Heap} {L l : Addr} {m : Str → Option Value} {s : Shared} {Q : Value → Shared → Prop} {vs : List Value} {ps : List Int} {nn tk' : Nat} (hret : RList news pwI h₀ L m s Q)
    (h : PowInv (rangeKs 0 (31 - 0 : Int).toNat) ps) (hi : IntsAre vs ps) (F : Fr h₀ L h' m) (N : News h₀ L h' ((l, listOf vs.toArray nn) :: news)) (hl : ∀ p ∈ news, p.1 < l) : Q (.ref l) { s with heap := h', toks := tk' } := by
  rw [pow_end h] at hi
  exact hret l vs nn h' tk' hi F N hl
set_option maxHeartbeats 4000000 in
theorem pow_c (w : World) (mean : ExcName → Option Value) (mg mb : Str → Option Value) (news : List (Addr × Obj)) :
    Claim1 w mean mg mb 4 42 news [] (RList news pwI) := by
  w_on
  unfold Claim1
  k_fill
  k_with_none
  (k_with "exec For Name Call cons nil" => kpr_for)
  (k_with "pyIter ref" => k_state (fun pre powers => powers.length = pre.length + 1 ∧ PowInv pre powers) "powers")
  (k_with "state" => first | exact pow_start | exact pow_turn (by assumption) (by assumption))
  intro L m s h₀ base outer A₀ cs dp un gd cn a ccd cl Q E ⟨B, F, N, hk⟩ X T hdp hu hret
  refine wpAny_call ?_
  k_dflt cell_enter
  k_steps
  all_goals exact pow_ret hret (by assumption) (by assumption) (by k_asm) (by k_asm) (by assumption)
end Mine
end
section
open PySem PySem.W PyProof.Rows PySem.Calls
namespace Mine
local macro_rules | `(tactic| walk_at "no such key 0") => `(tactic| fail)
abbrev RBnd (news : List (Addr × Obj)) (bound : Int) (h₀ : Heap) (L : Addr) (m : Str → Option Value) (s : Shared) (Q : Value → Shared → Prop) : Prop :=
  ∀ (r : Int) (t : Tok) (h' : Heap) (tk' : Nat), 0 ≤ r → r < bound → Fr h₀ L h' m → News h₀ L h' news → Q (.int r t) { s with heap := h', toks := tk' }
structure DrInv (bound total : Int) : Prop where
  lo : 0 ≤ total
  hi : total < bound
theorem dr_turn {bound x : Int} (h : 0 < bound) : DrInv bound (x.fmod bound) := ⟨Int.fmod_nonneg_of_pos _ h, Int.fmod_lt_of_pos _ h⟩
theorem base_ok {a base : Int} (h1 : 0 ≤ base) (h2 : base ≤ 100) : IntMulOk a base := IntMulOk.of_right (intBits_le_64 (by omega) (by omega))
local macro_rules | `(tactic| walk_at "binaryOp Mult int int") => `(tactic| refine mul_int ?_ (base_ok (by assumption) (by assumption)))
set_option maxHeartbeats 4000000 in
theorem drawn_c (w : World) (mean : ExcName → Option Value) (mg mb : Str → Option Value) (l : Addr) (vs : List Value) (nn : Nat) (ns : List Int) (start base bound : Int) (t1 t2 t3 : Tok)
    (hi : IntsAre vs ns) (hs0 : 0 ≤ start) (hs1 : start < bound) (hb0 : 0 ≤ base) (hb1 : base ≤ 100) (hc0 : 0 < bound) :
    Claim1 w mean mg mb 2 35 [(l, listOf vs.toArray nn)] [.ref l, .int start t1, .int base t2, .int bound t3] (RBnd [(l, listOf vs.toArray nn)] bound) := by
  w_on
  unfold Claim1
  k_fill
  k_with_none
  (k_with "exec For Name Name cons nil" => ((rename Fr _ _ _ _ => lF'); (with_unfolding_all refine' For_invVF lF' ?k1 ?k2 ?_; (case k1 => exact rfl); (case k2 => exact rfl); k_whole)))
  (k_with "pyIter ref" => k_state (fun pre total => DrInv bound total) "total")
  (k_with "state" => first | exact dr_turn (by assumption) | exact ⟨by assumption, by assumption⟩)
  intro L m s h₀ base' outer A₀ cs dp un gd cn a ccd cl Q E ⟨B, F, N, hk⟩ X T hdp hu hret
  refine wpAny_call ?_
  k_dflt cell_enter
  k_steps
  all_goals exact hret _ _ _ _ (DrInv.lo (by assumption)) (DrInv.hi (by assumption)) (by k_asm) (by k_asm)
end Mine
end
section
open PySem PySem.W PyProof.Rows PySem.Calls
namespace Mine
local macro_rules | `(tactic| walk_at "no such key 1") => `(tactic| fail)
local macro_rules | `(tactic| walk_at "no such key 0") => `(tactic| fail)
local macro_rules | `(tactic| walk_at "call ref") => `(tactic| (k_here; k_dflt (refine' gen_r ?k1 ?k2 ?k3 ?k4 ?k5 ?k6 ?k7 ?k8 ?k9 ?_; (case k1 => k_asm); (case k2 => k_asm); (case k3 => k_asm); (case k4 => k_asm); (case k5 => k_asm); (case k6 => first | exact rfl | assumption); (case k7 => ktr_room); (case k8 => ktr_units); (case k9 => first | exact PgInv.lo (by assumption)); intro t9 h9 tk9 F9 N9; (try dsimp only); (try k_fold))))
local macro_rules | `(tactic| walk_at "binaryOp LShift int int") => `(tactic| (k_here; refine lshift_int_small (by omega) (by omega) (by omega) ?_))
set_option maxHeartbeats 4000000 in
theorem prod_c (w : World) (mean : ExcName → Option Value) (mg mb : Str → Option Value) (news : List (Addr × Obj)) (x y : Int) (t1 t2 : Tok) (hx : 0 ≤ x) (hx1 : x < 4294967296) (hy : 0 ≤ y) :
    Claim1 w mean mg mb 4 63 news [.int x t1, .int y t2] (RInt news (prodI x y)) := by
  w_on
  unfold Claim1
  k_fill
  k_with_none
  (k_with "exec For Name Call cons nil" => kpr_for)
  (k_with "pyIter ref" => (k_of "place" => k_state_short (fun pre total => PrInv x y pre total) "total"))
  (k_with "pyIter ref" => (k_of "turn" => k_state_short (fun pre total => PgInv x y pre total) "total"))
  (k_with "state" => first | exact pr_start | exact pr_one (by assumption) (by assumption) (by assumption) (by assumption) (by assumption) | exact pr_none (by assumption) (by assumption) (by assumption) (by assumption) | exact pgi_start (by assumption) | exact pgi_turn (by assumption))
  intro L m s h₀ base outer A₀ cs dp un gd cn a ccd cl Q E ⟨B, F, N, hk⟩ X T hdp hu hret
  refine wpAny_call ?_
  k_dflt cell_enter
  k_steps
  all_goals exact cb_retI hret (pgi_end (by assumption)) (by k_asm) (by k_asm)
end Mine
end
section
open PySem PySem.W PyProof.Rows PySem.Calls
namespace Mine
set_option maxHeartbeats 4000000 in
theorem mov_c (w : World) (mean : ExcName → Option Value) (mg mb : Str → Option Value) (news : List (Addr × Obj)) (n tp : Int) (taps : Nat) (t1 t2 : Tok) (hn0 : 0 ≤ n) (hn : n < 1000) (ht : tp = (taps : Int)) :
    Claim1 w mean mg mb 4 70 news [.int n t1, .int tp t2] (RInt news ((movN taps n.toNat : Nat) : Int)) := by
  w_on
  unfold Claim1
  k_fill
  k_with_none
  (k_with "exec For Name Call cons nil" => kpr_for)
  (k_with "pyIter ref" => k_state_short (fun pre state => MvInv taps pre state) "state")
  (k_with "state" => first | exact mv_start | exact mv_big (by assumption) (by assumption) (by assumption) | exact mv_small (by assumption) (by assumption))
  intro L m s h₀ base outer A₀ cs dp un gd cn a ccd cl Q E ⟨B, F, N, hk⟩ X T hdp hu hret
  refine wpAny_call ?_
  k_dflt cell_enter
  k_steps
  all_goals exact cb_retI hret (mv_end (by assumption)) (by k_asm) (by k_asm)
local macro_rules | `(tactic| walk_at "subscriptTail") => `(tactic| (k_here; (with_reducible show wpAny _ _ (subscriptTail _ _ (Value.ref _) (Value.int _ _)) _ _ _); k_dflt (refine' item_anyK ?k1 ?k2 ?k3 ?k4 ?k5 ?_; (case k2 => assumption); (case k1 => exact News.isList (by k_asm) (by kst_mem)); (case k3 => omega); (case k4 => (rw [‹List.length _ = 4›]; omega)); (case k5 => omega); k_whole); intro _))
set_option maxHeartbeats 4000000 in
theorem mix_c (w : World) (mean : ExcName → Option Value) (mg mb : Str → Option Value) (news : List (Addr × Obj)) (st : Int) (t1 : Tok) (l : Addr) (vs : List Value) (nn : Nat) (ms : List Int)
    (hl : (l, listOf vs.toArray nn) ∈ news) (hi : IntsAre vs ms) (hm : ms.length = 4) (hs : 0 ≤ st) :
    Claim1 w mean mg mb 4 77 news [.int st t1, .ref l] (RInt news (mixN ms st.toNat 4)) := by
  w_on
  unfold Claim1
  k_fill
  k_with_none
  (k_with "exec For Name Call cons nil" => kpr_for)
  (k_with "pyIter ref" => k_state_short (fun pre total => MxInv ms st pre total) "total")
  (k_with "state" => first | exact mx_start | exact mx_one (by assumption) (by assumption) (by assumption) (by assumption) | exact mx_none (by assumption) (by assumption) (by assumption) (by assumption))
  intro L m s h₀ base outer A₀ cs dp un gd cn a ccd cl Q E ⟨B, F, N, hk⟩ X T hdp hu hret
  refine wpAny_call ?_
  k_dflt cell_enter
  k_steps
  all_goals exact cb_retI hret (mx_end (by assumption)) (by k_asm) (by k_asm)
end Mine
end
section
open PySem PySem.W PyProof.Rows PySem.Calls
namespace Mine
section
variable {w : World} {mean : ExcName → Option Value} {mg mb : Str → Option Value} {news : List (Addr × Obj)} {v x y z n start bs bound : Int} {t t1 t2 t3 : Tok} {l : Addr} {vs : List Value} {nn : Nat} {b : Array UInt8} {ks ns : List Int}
  {dp un : Nat} {gd : Option (List Code)} {cn : Str} {cs : Scope} {a : Addr} {ccd : Value} {cl : List (Str × Addr)} {outer : List Env} {A₀ : Around} {base h₀ : Heap} {L : Addr} {m : Str → Option Value} {s : Shared} {Q E : Value → Shared → Prop}
theorem walk_r (B : Below A₀ base outer h₀) (F : Fr h₀ L s.heap m) (X : Frag.In (hd.heap_39 w.params) h₀) (N : News h₀ L s.heap news) (T : Top hd.view_39 (looseW hd.view_39 []) mean mg mb h₀) (hk : cs.kind = .function)
    (hd : dp + 4 < recursionLimit) (hu : un + 8 * 4 < cLine) (hl : (l, listOf vs.toArray nn) ∈ news) (hi : IntsAre vs pwI) (h1 : -18446744073709551616 < v) (h2 : v < 18446744073709551616) (hret : RInt news (walkL (apI v)) h₀ L m s Q) :
    wpAny (model Challenge.rw_pe0016_02.row.prog w) (ktrTop dp un gd cn cs L a ccd cl outer) (call (.ref 56) [.int v t, .ref l]) Q E s :=
  walk_c w mean mg mb news v t l vs nn hl hi h1 h2 ⟨B, F, N, hk⟩ X T hd hu hret
theorem pow_r (B : Below A₀ base outer h₀) (F : Fr h₀ L s.heap m) (X : Frag.In (hd.heap_39 w.params) h₀) (N : News h₀ L s.heap news) (T : Top hd.view_39 (looseW hd.view_39 []) mean mg mb h₀) (hk : cs.kind = .function)
    (hd : dp + 4 < recursionLimit) (hu : un + 8 * 4 < cLine) (hret : RList news pwI h₀ L m s Q) :
    wpAny (model Challenge.rw_pe0016_02.row.prog w) (ktrTop dp un gd cn cs L a ccd cl outer) (call (.ref 42) []) Q E s :=
  pow_c w mean mg mb news ⟨B, F, N, hk⟩ X T hd hu hret
theorem drawn_r (B : Below A₀ base outer h₀) (F : Fr h₀ L s.heap m) (X : Frag.In (hd.heap_39 w.params) h₀) (N : News h₀ L s.heap [(l, listOf vs.toArray nn)]) (T : Top hd.view_39 (looseW hd.view_39 []) mean mg mb h₀) (hk : cs.kind = .function)
    (hd : dp + 2 < recursionLimit) (hu : un + 8 * 2 < cLine) (hi : IntsAre vs ns) (hs0 : 0 ≤ start) (hs1 : start < bound) (hb0 : 0 ≤ bs) (hb1 : bs ≤ 100) (hc0 : 0 < bound) (hret : RBnd [(l, listOf vs.toArray nn)] bound h₀ L m s Q) :
    wpAny (model Challenge.rw_pe0016_02.row.prog w) (ktrTop dp un gd cn cs L a ccd cl outer) (call (.ref 35) [.ref l, .int start t1, .int bs t2, .int bound t3]) Q E s :=
  drawn_c w mean mg mb l vs nn ns start bs bound t1 t2 t3 hi hs0 hs1 hb0 hb1 hc0 ⟨B, F, N, hk⟩ X T hd hu hret
theorem prod_r (B : Below A₀ base outer h₀) (F : Fr h₀ L s.heap m) (X : Frag.In (hd.heap_39 w.params) h₀) (N : News h₀ L s.heap news) (T : Top hd.view_39 (looseW hd.view_39 []) mean mg mb h₀) (hk : cs.kind = .function)
    (hd : dp + 4 < recursionLimit) (hu : un + 8 * 4 < cLine) (hx : 0 ≤ x) (hx1 : x < 4294967296) (hy : 0 ≤ y) (e : prodI x y = z) (hret : RInt news z h₀ L m s Q) :
    wpAny (model Challenge.rw_pe0016_02.row.prog w) (ktrTop dp un gd cn cs L a ccd cl outer) (call (.ref 63) [.int x t1, .int y t2]) Q E s :=
  prod_c w mean mg mb news x y t1 t2 hx hx1 hy ⟨B, F, N, hk⟩ X T hd hu (by rw [e]; exact hret)
theorem mov_r (B : Below A₀ base outer h₀) (F : Fr h₀ L s.heap m) (X : Frag.In (hd.heap_39 w.params) h₀) (N : News h₀ L s.heap news) (T : Top hd.view_39 (looseW hd.view_39 []) mean mg mb h₀) (hk : cs.kind = .function)
    (hd : dp + 4 < recursionLimit) (hu : un + 8 * 4 < cLine) (hn0 : 0 ≤ n) (hn : n < 1000) (hret : RInt news ((movN 19 n.toNat : Nat) : Int) h₀ L m s Q) :
    wpAny (model Challenge.rw_pe0016_02.row.prog w) (ktrTop dp un gd cn cs L a ccd cl outer) (call (.ref 70) [.int n t1, .int 19 t2]) Q E s :=
  mov_c w mean mg mb news n 19 19 t1 t2 hn0 hn rfl ⟨B, F, N, hk⟩ X T hd hu hret
theorem mix_r (B : Below A₀ base outer h₀) (F : Fr h₀ L s.heap m) (X : Frag.In (hd.heap_39 w.params) h₀) (N : News h₀ L s.heap news) (T : Top hd.view_39 (looseW hd.view_39 []) mean mg mb h₀) (hk : cs.kind = .function)
    (hd : dp + 4 < recursionLimit) (hu : un + 8 * 4 < cLine) (hl : (l, listOf vs.toArray nn) ∈ news) (hi : IntsAre vs gL) (hs : 0 ≤ x) (hret : RInt news (mixN gL x.toNat 4) h₀ L m s Q) :
    wpAny (model Challenge.rw_pe0016_02.row.prog w) (ktrTop dp un gd cn cs L a ccd cl outer) (call (.ref 77) [.int x t, .ref l]) Q E s :=
  mix_c w mean mg mb news x t l vs nn gL hl hi rfl hs ⟨B, F, N, hk⟩ X T hd hu hret
theorem first_r (B : Below A₀ base outer h₀) (F : Fr h₀ L s.heap m) (X : Frag.In (hd.heap_39 w.params) h₀) (N : News h₀ L s.heap news) (T : Top hd.view_39 (looseW hd.view_39 []) mean mg mb h₀) (hk : cs.kind = .function)
    (hd : dp + 4 < recursionLimit) (hu : un + 8 * 4 < cLine) (hl : (l, listOf vs.toArray nn) ∈ news) (hi : IntsAre vs pwI) (hret : RInt news 2054523987 h₀ L m s Q) :
    wpAny (model Challenge.rw_pe0016_02.row.prog w) (ktrTop dp un gd cn cs L a ccd cl outer) (call (.ref 56) [.int 286331153 t, .ref l]) Q E s :=
  walk_r B F X N T hk hd hu hl hi (by decide) (by decide) (by rw [walk_g]; exact hret)
end
section
variable {prog : Program} {w : World} {A : Around} {E : Value → Shared → Prop} {s : Shared} {Q : Value → Shared → Prop}
theorem eq_int_true {x y : Int} {t u : Tok} (e : x = y) (h : Q (.bool true) s) : wpAny (model prog w) A (compareOp .Eq (.int x t) (.int y u)) Q E s := by
  subst e
  exact eq_int (by simpa using h)
theorem mixN_gL_nonneg (st : Nat) : 0 ≤ mixN gL st 4 := by
  have h : ∀ a b : Int, 0 ≤ a → 0 ≤ b → 0 ≤ Builtin.bitXor a b := by
    intro a b ha hb
    have e1 : a = ((a.toNat : Nat) : Int) := by omega
    have e2 : b = ((b.toNat : Nat) : Int) := by omega
    rw [e1, e2, bitXor_nat]
    omega
  have hg : ∀ p, 0 ≤ gL.getD p 0 := by
    intro p
    match p with
    | 0 => decide
    | 1 => decide
    | 2 => decide
    | 3 => decide
    | p + 4 => simp [gL, List.getD]
  have key : ∀ p, 0 ≤ mixN gL st p := by
    intro p
    induction p with
    | zero => exact Int.le_refl 0
    | succ p ih =>
      unfold mixN
      split
      · exact h _ _ ih (hg p)
      · exact ih
  exact key 4
theorem sum_fold {ys : List Value} {n : Int} (h : IntsAre ys (List.map (fun k9 : Int => k9 - 65) (apI n))) : IntsAre ys (List.map (fun k9 : Int => k9 - 65) (apI n)) := h
end
end Mine
end
section
open PySem PySem.W PyProof.Rows PySem.Calls Mine
local macro_rules | `(tactic| walk_at "call ref") => `(tactic| (k_here; k_dflt (refine' ap_r ?k1 ?k2 ?k3 ?k4 ?k5 ?k6 ?k7 ?k8 ?k9 ?k10 ?_; (case k1 => k_asm); (case k2 => k_asm); (case k3 => k_asm); (case k4 => k_asm); (case k5 => k_asm); (case k6 => first | exact rfl | assumption); (case k7 => ktr_room); (case k8 => ktr_units); (case k9 => omega); (case k10 => omega); intro b9 t9 h9 tk9 kbaB F9 N9; (try dsimp only); (try k_fold))))
local macro_rules | `(tactic| walk_at "call ref") => `(tactic| (k_here; k_dflt (refine' prod_r ?k1 ?k2 ?k3 ?k4 ?k5 ?k6 ?k7 ?k8 ?k9 ?k10 ?k11 ?k12 ?_; (case k1 => k_asm); (case k2 => k_asm); (case k3 => k_asm); (case k4 => k_asm); (case k5 => k_asm); (case k6 => first | exact rfl | assumption); (case k7 => ktr_room); (case k8 => ktr_units); (case k9 => exact walkL_nonneg _); (case k10 => exact walkL_lt (by omega) (by omega)); (case k11 => exact mixN_gL_nonneg _); (case k12 => exact rfl); intro t9 h9 tk9 F9 N9; (try dsimp only); (try k_fold))))
local macro_rules | `(tactic| walk_at "call ref") => `(tactic| (k_here; k_dflt (refine' prod_r ?k1 ?k2 ?k3 ?k4 ?k5 ?k6 ?k7 ?k8 ?k9 ?k10 ?k11 ?k12 ?_; (case k1 => k_asm); (case k2 => k_asm); (case k3 => k_asm); (case k4 => k_asm); (case k5 => k_asm); (case k6 => first | exact rfl | assumption); (case k7 => ktr_room); (case k8 => ktr_units); (case k9 => decide); (case k10 => decide); (case k11 => decide); (case k12 => first | exact prod_g1 | exact prod_g2 | exact prod_g3); intro t9 h9 tk9 F9 N9; (try dsimp only); (try k_fold))))
local macro_rules | `(tactic| walk_at "call ref") => `(tactic| (k_here; k_dflt (refine' mov_r ?k1 ?k2 ?k3 ?k4 ?k5 ?k6 ?k7 ?k8 ?k9 ?k10 ?_; (case k1 => k_asm); (case k2 => k_asm); (case k3 => k_asm); (case k4 => k_asm); (case k5 => k_asm); (case k6 => first | exact rfl | assumption); (case k7 => ktr_room); (case k8 => ktr_units); (case k9 => exact (dsum_bnd (by assumption) (by omega)).1); (case k10 => exact Int.lt_of_le_of_lt (dsum_bnd (by assumption) (by omega)).2.1 (by decide)); intro t9 h9 tk9 F9 N9; (try dsimp only); (try k_fold))))
local macro_rules | `(tactic| walk_at "call ref") => `(tactic| (k_here; k_dflt (refine' mix_r ?k1 ?k2 ?k3 ?k4 ?k5 ?k6 ?k7 ?k8 ?k9 ?k10 ?k11 ?_; (case k1 => k_asm); (case k2 => k_asm); (case k3 => k_asm); (case k4 => k_asm); (case k5 => k_asm); (case k6 => first | exact rfl | assumption); (case k7 => ktr_room); (case k8 => ktr_units); (case k9 => kcf_m); (case k10 => exact IntsAre.cons _ _ (.cons _ _ (.cons _ _ (.cons _ _ .nil)))); (case k11 => exact Int.natCast_nonneg _); intro t9 h9 tk9 F9 N9; (try dsimp only); (try k_fold))))
local macro_rules | `(tactic| walk_at "call ref") => `(tactic| (k_here; k_dflt (refine' walk_r ?k1 ?k2 ?k3 ?k4 ?k5 ?k6 ?k7 ?k8 ?k9 ?k10 ?k11 ?k12 ?_; (case k1 => k_asm); (case k2 => k_asm); (case k3 => k_asm); (case k4 => k_asm); (case k5 => k_asm); (case k6 => first | exact rfl | assumption); (case k7 => ktr_room); (case k8 => ktr_units); (case k9 => kcf_m); (case k10 => assumption); (case k11 => omega); (case k12 => omega); intro t9 h9 tk9 F9 N9; (try dsimp only); (try k_fold))))
local macro_rules | `(tactic| walk_at "call ref") => `(tactic| (k_here; k_dflt (refine' first_r ?k1 ?k2 ?k3 ?k4 ?k5 ?k6 ?k7 ?k8 ?k9 ?k10 ?_; (case k1 => k_asm); (case k2 => k_asm); (case k3 => k_asm); (case k4 => k_asm); (case k5 => k_asm); (case k6 => first | exact rfl | assumption); (case k7 => ktr_room); (case k8 => ktr_units); (case k9 => kcf_m); (case k10 => assumption); intro t9 h9 tk9 F9 N9; (try dsimp only); (try k_fold))))
local macro_rules | `(tactic| walk_at "call ref") => `(tactic| (k_here; k_dflt (refine' pow_r ?k1 ?k2 ?k3 ?k4 ?k5 ?k6 ?k7 ?k8 ?_; (case k1 => k_asm); (case k2 => k_asm); (case k3 => k_asm); (case k4 => k_asm); (case k5 => k_asm); (case k6 => first | exact rfl | assumption); (case k7 => ktr_room); (case k8 => ktr_units); intro l9 vs9 nn9 h9 tk9 hI9 F9 N9 l1; (try dsimp only); (try k_fold))))
local macro_rules | `(tactic| walk_at "call ref") => `(tactic| (k_here; k_dflt (refine' drawn_r ?k1 ?k2 ?k3 ?k4 ?k5 ?k6 ?k7 ?k8 ?k9 ?k10 ?k11 ?k12 ?k13 ?k14 ?_; (case k1 => k_asm); (case k2 => k_asm); (case k3 => k_asm); (case k4 => k_asm); (case k5 => k_asm); (case k6 => first | exact rfl | assumption); (case k7 => ktr_room); (case k8 => ktr_units); (case k9 => assumption); (case k10 => decide); (case k11 => decide); (case k12 => decide); (case k13 => decide); (case k14 => decide); intro r9 t9 h9 tk9 hr9 hs9 F9 N9; (try dsimp only); (try k_fold))))
local macro_rules | `(tactic| walk_at "eval ListComp") => `(tactic| (k_here; (with_reducible rename Fr _ _ _ _ => kF9); (refine' eval_each (fun k9 : Int => k9 - 65) kF9 ⟨?a1, ?a2, ?a3, ?a4⟩ ?a5 ?a6; (case a1 => k_dflt (exact rfl)); (case a2 => k_dflt (exact rfl)); (case a3 => decide); (case a4 => k_dflt (exact rfl)); (case a5 => (intro _; k_dflt (exact rfl))); k_whole)))
local macro_rules | `(tactic| walk_at "Each") => `(tactic| (k_here; k_dflt (refine each_of (feeds_bytes (by rfl) (by kba_ints)) (by exact Nat.le_trans (digs_le _ _) (by decide)) (by k_asm) (by k_asm) ?_ ?_); rotate_left; (intro D9 vs9 nn9 h9 tk9 hI9 F9 N9 o9; (try dsimp only)); rotate_left; (intro k9 t9 C9 oC9 m9 E9 s9 hm9 hC9 hx9 F9 N9)))
local macro_rules | `(tactic| walk_at "Gives") => `(tactic| exact ⟨⟨_, rfl⟩, _, _, rfl, fun _ _ e9 => e9⟩)
local macro_rules | `(tactic| walk_at "compareOp Eq int int") => `(tactic| (k_here; first | (refine eq_int_true (show (4202007635 : Int) = Builtin.bitXor (2 ^ Int.toNat 31) 2054523987 by decide +kernel) ?_) | (refine eq_int_true (law2_end (by assumption) (by assumption) (by assumption) (by assumption)) ?_)))
set_option maxHeartbeats 8000000 in
theorem PySem.Challenge.cw_pe0016_02_holds : PySem.Challenge.rw_pe0016_02.Holds := by
  refine Mine.hd ?_
  k_with_none
  k_go0
  all_goals try k_fold
  k_steps
end
