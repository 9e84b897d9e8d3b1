import PyProof.Rows.All
import Wide.All
import OpenK.AllK
import Wide.FinOn
import PySem.Challenge.RW_pe0016_01
set_option Elab.async false
set_option maxRecDepth 100000
set_option linter.unusedVariables false
set_option linter.unusedSimpArgs false
section
open PySem PyProof.Rows
namespace Mine
theorem nat_xor_and : ∀ (x y : Nat), (x ^^^ y) + 2 * (x &&& y) = x + y := by
  intro x
  induction x using Nat.strongRecOn with
  | _ x ih =>
    intro y
    by_cases hx : x = 0
    · subst hx; simp
    · have h := ih (x / 2) (by omega) (y / 2)
      have e1 : (x ^^^ y) / 2 = x / 2 ^^^ y / 2 := Nat.xor_div_two
      have e2 : (x &&& y) / 2 = x / 2 &&& y / 2 := Nat.and_div_two
      have e3 : (x ^^^ y) % 2 = (x % 2 + y % 2) % 2 := by
        have := Nat.testBit_xor x y 0
        simp only [Nat.testBit_zero] at this
        rcases Nat.mod_two_eq_zero_or_one x with a | a <;> rcases Nat.mod_two_eq_zero_or_one y with b | b <;> rcases Nat.mod_two_eq_zero_or_one (x ^^^ y) with c | c <;> simp only [a, b, c] at this ⊢ <;> first | rfl | (exact absurd this (by decide))
      have e4 : (x &&& y) % 2 = (x % 2) * (y % 2) := by
        have := Nat.testBit_and x y 0
        simp only [Nat.testBit_zero] at this
        rcases Nat.mod_two_eq_zero_or_one x with a | a <;> rcases Nat.mod_two_eq_zero_or_one y with b | b <;> rcases Nat.mod_two_eq_zero_or_one (x &&& y) with c | c <;> simp only [a, b, c] at this ⊢ <;> first | rfl | (exact absurd this (by decide))
      rw [← e1, ← e2] at h
      rcases Nat.mod_two_eq_zero_or_one x with a | a <;> rcases Nat.mod_two_eq_zero_or_one y with b | b <;> simp only [a, b, Nat.mul_zero, Nat.zero_mul, Nat.mul_one] at e3 e4 <;> omega

theorem bitXor_nat (x y : Nat) : Builtin.bitXor (x : Int) (y : Int) = ((x ^^^ y : Nat) : Int) := by
  rw [bitXor_and, bitAnd_pp (by omega) (by omega)]
  have := nat_xor_and x y
  simp only [Int.toNat_natCast]
  omega

def crcStep (c : Nat) : Nat := if c % 2 = 1 then (c / 2) ^^^ 3988292384 else c / 2
def crcN : Nat → Nat → Nat
  | 0, c => c
  | n + 1, c => crcStep (crcN n c)
def genI (v : Int) : Int := ((crcN 8 v.toNat : Nat) : Int)
theorem genI_nonneg (v : Int) : 0 ≤ genI v := by unfold genI; omega

theorem gen_start {v : Int} (hv : 0 ≤ v) : v = ((crcN ([] : List Int).length v.toNat : Nat) : Int) := by
  show v = ((v.toNat : Nat) : Int)
  omega
theorem fdiv_half (c : Nat) : (c : Int).fdiv (2 ^ Int.toNat 1) = ((c / 2 : Nat) : Int) := by
  have : (2 : Int) ^ Int.toNat 1 = 2 := by decide
  rw [this, Int.fdiv_eq_ediv_of_nonneg _ (by decide)]
  omega
theorem gen_odd {v crc : Int} {pre : List Int} {k : Int} (h : crc = ((crcN pre.length v.toNat : Nat) : Int)) (hb : Builtin.bitAnd crc 1 ≠ 0) :
    Builtin.bitXor (crc.fdiv (2 ^ Int.toNat 1)) 3988292384 = ((crcN (pre ++ [k]).length v.toNat : Nat) : Int) := by
  subst h
  rw [bitAnd_m1] at hb
  rw [fdiv_half]
  have e : (3988292384 : Int) = ((3988292384 : Nat) : Int) := rfl
  rw [e, bitXor_nat]
  rw [List.length_append]
  show _ = ((crcStep (crcN pre.length v.toNat) : Nat) : Int)
  unfold crcStep
  rw [if_pos (by omega)]
theorem gen_even {v crc : Int} {pre : List Int} {k : Int} (h : crc = ((crcN pre.length v.toNat : Nat) : Int)) (hb : Builtin.bitAnd crc 1 = 0) :
    crc.fdiv (2 ^ Int.toNat 1) = ((crcN (pre ++ [k]).length v.toNat : Nat) : Int) := by
  subst h
  rw [bitAnd_m1] at hb
  rw [fdiv_half]
  rw [List.length_append]
  show _ = ((crcStep (crcN pre.length v.toNat) : Nat) : Int)
  unfold crcStep
  rw [if_neg (by omega)]
end Mine
end
section
open PySem PySem.W PyProof.Rows
namespace Mine
/-- the letters' numbers (0 to 15), the highest first; f: turns at most -/
def digs : Nat → Nat → List Int
  | 0, _ => []
  | f + 1, n => if n = 0 then [] else digs f (n / 16) ++ [((n % 16 : Nat) : Int) + 65]
theorem digs_le : ∀ (f n : Nat), (digs f n).length ≤ f
  | 0, _ => Nat.le_refl _
  | f + 1, n => by
    unfold digs
    split
    · simp
    · rw [List.length_append]; have := digs_le f (n / 16); simp; omega
theorem digs_zero (f : Nat) : digs f 0 = [] := by cases f <;> rfl
theorem digs_more : ∀ (f n : Nat), n < 16 ^ f → digs (f + 1) n = digs f n
  | 0, n, h => by
    have : n = 0 := by simpa using h
    subst this; rfl
  | f + 1, n, h => by
    conv => lhs; unfold digs
    conv => rhs; unfold digs
    split
    · rfl
    · rw [digs_more f (n / 16) (by rw [Nat.pow_succ] at h; omega)]
theorem digs_ge {f : Nat} : ∀ {g n : Nat}, f ≤ g → n < 16 ^ f → digs g n = digs f n := by
  intro g n hg hn
  induction g with
  | zero => have : f = 0 := by omega
            subst this; rfl
  | succ g ih =>
    by_cases e : f = g + 1
    · subst e; rfl
    · have hfg : f ≤ g := by omega
      rw [digs_more g n (Nat.lt_of_lt_of_le hn (Nat.pow_le_pow_right (by decide) hfg)), ih hfg]
/-- what Int2AP gives: its letters' codes -/
def apI (v : Int) : List Int := digs 16 v.natAbs

structure ApInv (v num : Int) (val : Array UInt8) : Prop where
  lo : 0 ≤ num
  hi : num < 18446744073709551616
  size : val.size ≤ 16
  eq : digs 16 num.toNat ++ KBw.bInts val = apI v
end Mine
namespace Mine
open PySem PySem.W PyProof.Rows
def apTab : Array UInt8 := #[65, 66, 67, 68, 69, 70, 71, 72, 73, 74, 75, 76, 77, 78, 79, 80]
theorem ap_pick_fin : ∀ k : Fin 16, KBw.bInts (KBy.picked #[65, 66, 67, 68, 69, 70, 71, 72, 73, 74, 75, 76, 77, 78, 79, 80] (some (k.val : Int)) (some ((k.val : Int) + 1))) = [((k.val : Int) + 65)] := by decide +kernel
theorem ap_pick (num : Int) : KBw.bInts (KBy.picked #[65, 66, 67, 68, 69, 70, 71, 72, 73, 74, 75, 76, 77, 78, 79, 80] (some (num.fmod 16)) (some (num.fmod 16 + 1))) = [num.fmod 16 + 65] := by
  have e : num.fmod 16 = num % 16 := Int.fmod_eq_emod_of_nonneg _ (by decide)
  have := ap_pick_fin ⟨(num % 16).toNat, by omega⟩
  have e2 : (((num % 16).toNat : Nat) : Int) = num % 16 := by omega
  simp only [e2] at this
  rw [e]
  exact this
theorem ap_room {v num x : Int} {val : Array UInt8} (h : ApInv v num val) : ([x] : List Int).length + (KBw.bInts val).length ≤ 16777216 := by
  have := h.size
  rw [KBw.ints_length]
  simp
  omega
theorem digs_turn {n : Nat} (h0 : n ≠ 0) (hn : n < 18446744073709551616) : digs 16 n = digs 16 (n / 16) ++ [((n % 16 : Nat) : Int) + 65] := by
  rw [digs_more 15 (n / 16) (by have : (16 : Nat) ^ 15 = 1152921504606846976 := by decide
                                omega)]
  conv => lhs; unfold digs
  rw [if_neg h0]
theorem ap_turn {v num : Int} {val : Array UInt8} (h : ApInv v num val) (h0 : num ≠ 0) :
    ApInv v (num.fdiv 16) (KBy.picked #[65, 66, 67, 68, 69, 70, 71, 72, 73, 74, 75, 76, 77, 78, 79, 80] (some (num.fmod 16)) (some (num.fmod 16 + 1)) ++ val) := by
  have e : num.fdiv 16 = num / 16 := Int.fdiv_eq_ediv_of_nonneg _ (by decide)
  have e2 : num.fmod 16 = num % 16 := Int.fmod_eq_emod_of_nonneg _ (by decide)
  have lo := h.lo
  have hi := h.hi
  have key : digs 16 (num.fdiv 16).toNat ++ KBw.bInts (KBy.picked #[65, 66, 67, 68, 69, 70, 71, 72, 73, 74, 75, 76, 77, 78, 79, 80] (some (num.fmod 16)) (some (num.fmod 16 + 1)) ++ val) = apI v := by
    rw [KBw.ints_app (ap_pick num) rfl, ← h.eq, digs_turn (n := num.toNat) (by omega) (by omega), List.append_assoc, e, e2]
    have e3 : (num / 16).toNat = num.toNat / 16 := by omega
    have e4 : ((num.toNat % 16 : Nat) : Int) = num % 16 := by omega
    rw [e3, e4]
  refine ⟨by omega, by omega, ?_, key⟩
  have := congrArg List.length key
  rw [List.length_append, KBw.ints_length] at this
  have := digs_le 16 v.natAbs
  unfold apI at *
  omega
theorem ap_less {v num : Int} {val : Array UInt8} (h : ApInv v num val) (h0 : num ≠ 0) : (num.fdiv 16).toNat < num.toNat := by
  have e : num.fdiv 16 = num / 16 := Int.fdiv_eq_ediv_of_nonneg _ (by decide)
  have lo := h.lo
  omega
theorem ap_start {v : Int} (h1 : -18446744073709551616 < v) (h2 : v < 18446744073709551616) : ApInv v (if v < 0 then -v else v) #[] := by
  have e : (if v < 0 then -v else v) = ((v.natAbs : Nat) : Int) := by split <;> omega
  rw [e]
  refine ⟨by omega, by omega, by simp, ?_⟩
  show digs 16 ((v.natAbs : Nat) : Int).toNat ++ [] = digs 16 v.natAbs
  simp
theorem ap_end {v num : Int} {val : Array UInt8} (h : ApInv v num val) (h0 : num = 0) : KBw.bInts val = apI v := by
  rw [← h.eq, h0]
  rfl
end Mine
end
section
open PySem PySem.W PyProof.Rows
namespace Mine
@[irreducible] def pwN (i : Nat) : Nat := crcN (16 * i) 2147483648
@[irreducible] def pwI : List Int := (List.range 32).map fun i => ((pwN i : Nat) : Int)
theorem pwI_length : pwI.length = 32 := by simp [pwI]
def leapN : Nat → Nat → Nat
  | 0, _ => 0
  | p + 1, r => if r / 2 ^ (31 - p) % 2 = 1 then leapN p r ^^^ pwN p else leapN p r
def leapI (v : Int) : Int := ((leapN 32 v.toNat : Nat) : Int)
end Mine
namespace Mine
open PySem PySem.W PyProof.Rows
theorem fdiv_pow (c : Nat) (k : Nat) : (c : Int).fdiv (2 ^ k) = ((c / 2 ^ k : Nat) : Int) := by
  have e : (2 : Int) ^ k = ((2 ^ k : Nat) : Int) := by simp
  rw [e, Int.fdiv_eq_ediv_of_nonneg _ (Int.natCast_nonneg _)]
  exact (Int.natCast_ediv c (2 ^ k)).symm
theorem bit_one {v : Int} (hv : 0 ≤ v) (k : Nat) : Builtin.bitAnd (v.fdiv (2 ^ k)) 1 = ((v.toNat / 2 ^ k % 2 : Nat) : Int) := by
  have e : v = ((v.toNat : Nat) : Int) := by omega
  rw [bitAnd_m1]
  conv => lhs; rw [e]
  rw [fdiv_pow]
  omega
theorem pwI_at {k : Nat} (h : k < 32) : pwI.getD k 0 = ((pwN k : Nat) : Int) := by
  simp [pwI, List.getD, h]
theorem leap_start {v : Int} : (0 : Int) = ((leapN ([] : List Int).length v.toNat : Nat) : Int) := rfl
theorem leap_one {v tot k : Int} {pre : List Int} (hv : 0 ≤ v) (h : tot = ((leapN pre.length v.toNat : Nat) : Int)) (hk : k = 0 + (pre.length : Int)) (hlt : pre.length < (32 - 0 : Int).toNat)
    (hb : Builtin.bitAnd (v.fdiv (2 ^ (31 - k).toNat)) 1 = 1) :
    Builtin.bitXor tot (pwI.getD k.toNat 0) = ((leapN (pre ++ [k]).length v.toNat : Nat) : Int) := by
  have e1 : k.toNat = pre.length := by omega
  have e2 : (31 - k).toNat = 31 - pre.length := by omega
  rw [e2, bit_one hv] at hb
  rw [e1, pwI_at (by simpa using hlt), h, bitXor_nat, List.length_append]
  show _ = ((leapN (pre.length + 1) v.toNat : Nat) : Int)
  conv => rhs; unfold leapN
  rw [if_pos (by omega)]
theorem leap_none {v tot k : Int} {pre : List Int} (hv : 0 ≤ v) (h : tot = ((leapN pre.length v.toNat : Nat) : Int)) (hk : k = 0 + (pre.length : Int)) (hlt : pre.length < (32 - 0 : Int).toNat)
    (hb : ¬ Builtin.bitAnd (v.fdiv (2 ^ (31 - k).toNat)) 1 = 1) :
    tot = ((leapN (pre ++ [k]).length v.toNat : Nat) : Int) := by
  have e2 : (31 - k).toNat = 31 - pre.length := by omega
  rw [e2, bit_one hv] at hb
  rw [h, List.length_append]
  show _ = ((leapN (pre.length + 1) v.toNat : Nat) : Int)
  conv => rhs; unfold leapN
  rw [if_neg (by omega)]
theorem leap_end {v x : Int} (h : x = ((leapN (rangeKs 0 (32 - 0 : Int).toNat).length v.toNat : Nat) : Int)) : x = leapI v := h
end Mine
end
section
open PySem PySem.W PyProof.Rows
namespace Mine
def genIt : Nat → Int → Int
  | 0, r => r
  | n + 1, r => genI (genIt n r)
def walkL (ls : List Int) : Int := ls.foldl (fun r d => genIt (d - 65).toNat (leapI r)) 2147483648
theorem leapI_nonneg (v : Int) : 0 ≤ leapI v := by unfold leapI; omega
theorem genIt_nonneg {r : Int} (h : 0 ≤ r) : ∀ n, 0 ≤ genIt n r
  | 0 => h
  | n + 1 => genI_nonneg _
theorem walkL_snoc (pre : List Int) (d : Int) : walkL (pre ++ [d]) = genIt (d - 65).toNat (leapI (walkL pre)) := by
  unfold walkL
  rw [List.foldl_append]
  rfl
structure WalkInv (pre : List Int) (reg : Int) : Prop where
  lo : 0 ≤ reg
  eq : reg = walkL pre
structure GenInv (r : Int) (pre : List Int) (reg : Int) : Prop where
  lo : 0 ≤ reg
  eq : reg = genIt pre.length r
theorem walk_start : WalkInv [] (2 ^ Int.toNat 31) := ⟨by decide, by decide⟩
theorem gi_start {r : Int} : GenInv (leapI r) [] (leapI r) := ⟨leapI_nonneg r, rfl⟩
theorem gi_turn {r x k : Int} {pre : List Int} (h : GenInv r pre x) : GenInv r (pre ++ [k]) (genI x) := by
  refine ⟨genI_nonneg _, ?_⟩
  rw [h.eq, List.length_append]
  rfl
theorem walk_turn {pre : List Int} {reg x d : Int} (h : WalkInv pre reg) (g : GenInv (leapI reg) (rangeKs 0 (d - 65 - 0).toNat) x) : WalkInv (pre ++ [d]) x := by
  refine ⟨g.lo, ?_⟩
  rw [walkL_snoc, ← h.eq, g.eq, rangeKs_length]
  congr 2
  omega
end Mine
end
section
open PySem PySem.W PyProof.Rows
namespace Mine
theorem crcN_add (a b c : Nat) : crcN (a + b) c = crcN a (crcN b c) := by
  induction a with
  | zero => simp [crcN]
  | succ a ih => rw [Nat.succ_add]; show crcStep _ = crcStep _; rw [ih]
theorem pw_next (i : Nat) : genI (genI ((pwN i : Nat) : Int)) = ((pwN (i + 1) : Nat) : Int) := by
  unfold genI pwN
  rw [Int.toNat_natCast, Int.toNat_natCast, ← crcN_add, ← crcN_add]
  have : 8 + 8 + 16 * i = 16 * (i + 1) := by omega
  rw [this]
structure PowInv (pre ps : List Int) : Prop where
  len : ps.length = pre.length + 1
  eq : ps = pwI.take (pre.length + 1)
theorem pow_start : ([2 ^ Int.toNat 31] : List Int).length = ([] : List Int).length + 1 ∧ PowInv [] [2 ^ Int.toNat 31] := ⟨rfl, ⟨rfl, by decide +kernel⟩⟩
theorem pwI_take {n : Nat} (h : n < 32) : pwI.take (n + 1) = pwI.take n ++ [((pwN n : Nat) : Int)] := by
  rw [List.take_add_one]
  congr 1
  simp [pwI, h]
theorem pow_turn {pre ps : List Int} {k : Int} (h : PowInv pre ps) (hlt : pre.length < (31 - 0 : Int).toNat) :
    (ps ++ [genI (genI (ps.getD (-1 + (ps.length : Int)).toNat 0))]).length = (pre ++ [k]).length + 1 ∧ PowInv (pre ++ [k]) (ps ++ [genI (genI (ps.getD (-1 + (ps.length : Int)).toNat 0))]) := by
  have hlt' : pre.length < 31 := by simpa using hlt
  have hn := h.len
  refine ⟨by simp [hn], ⟨by simp [hn], ?_⟩⟩
  have e : ps.getD (-1 + (ps.length : Int)).toNat 0 = ((pwN pre.length : Nat) : Int) := by
    have e0 : (-1 + (ps.length : Int)).toNat = pre.length := by omega
    rw [e0, h.eq, pwI_take (by omega)]
    have : (pwI.take pre.length).length = pre.length := by rw [List.length_take, pwI_length]; omega
    simp [List.getD, this]
  rw [e, pw_next, List.length_append]
  show _ = pwI.take (pre.length + 1 + 1)
  rw [pwI_take (by omega), h.eq]
theorem pow_lo {pre ps : List Int} (h : PowInv pre ps) : 0 ≤ ps.getD (-1 + (ps.length : Int)).toNat 0 := by
  have : ∀ x ∈ pwI, 0 ≤ x := by
    intro x hx
    simp only [pwI, List.mem_map] at hx
    obtain ⟨i, _, rfl⟩ := hx
    omega
  have hn := h.len
  have hlt : ps.length - 1 < ps.length := by omega
  have e0 : (-1 + (ps.length : Int)).toNat = ps.length - 1 := by omega
  have e : ps.getD (-1 + (ps.length : Int)).toNat 0 = ps[ps.length - 1] := by rw [e0]; simp [List.getD, hlt]
  rw [e]
  refine this _ ?_
  have h9 : ps[ps.length - 1] ∈ ps := List.getElem_mem hlt
  have h8 : ∀ x ∈ ps, x ∈ pwI := by rw [h.eq]; exact fun x hx => List.mem_of_mem_take hx
  exact h8 _ h9
theorem pow_end {ps : List Int} (h : PowInv (rangeKs 0 (31 - 0 : Int).toNat) ps) : ps = pwI := by
  rw [h.eq, rangeKs_length]
  exact List.take_of_length_le (by rw [pwI_length]; decide)
end Mine
end
section
open PySem PySem.W PyProof.Rows
namespace Mine
def figs (ks : List Int) : List Int := ks.reverse.map (· - 65)
def wt (width place : Int) : Int := if (place.fdiv width).fmod 2 = 1 then -(16 ^ (place.fmod width).toNat) else 16 ^ (place.fmod width).toNat
def altS (fs : List Int) (width : Int) : Nat → Int
  | 0 => 0
  | n + 1 => altS fs width n + fs.getD n 0 * wt width n
def restsL (ks : List Int) : List Int := [(figs ks).sum.fmod 15, (altS (figs ks) 1 ks.length).fmod 17, (altS (figs ks) 2 ks.length).fmod 257, (altS (figs ks) 4 ks.length).fmod 65537]
theorem figs_fold {ys : List Value} {ks : List Int} (h : IntsAre ys (List.map (fun k9 => k9 - 65) ks.reverse)) : IntsAre ys (figs ks) := h
theorem figs_length (ks : List Int) : (figs ks).length = ks.length := by simp [figs]
theorem figs_len {ys : List Value} {ks : List Int} (h : IntsAre ys (figs ks)) : ys.length = ks.length := by rw [IntsAre.length h, figs_length]
structure AltInv (ks : List Int) (width : Int) (pre : List Int) (total : Int) : Prop where
  eq : total = altS (figs ks) width pre.length
theorem pow16_le {k w : Int} (h : 0 < w) (h4 : w ≤ 4) : (0 : Int) < 16 ^ (k.fmod w).toNat ∧ (16 : Int) ^ (k.fmod w).toNat ≤ 4096 := by
  have h1 : 0 ≤ k.fmod w := Int.fmod_nonneg_of_pos _ h
  have h2 : k.fmod w < w := Int.fmod_lt_of_pos _ h
  have h3 : (k.fmod w).toNat = 0 ∨ (k.fmod w).toNat = 1 ∨ (k.fmod w).toNat = 2 ∨ (k.fmod w).toNat = 3 := by omega
  rcases h3 with e | e | e | e <;> rw [e] <;> decide
theorem wt_okP {a k w : Int} (h : 0 < w) (h4 : w ≤ 4) : IntMulOk a (16 ^ (k.fmod w).toNat) := by
  have := pow16_le (k := k) h h4
  exact IntMulOk.of_right (intBits_le_64 (by omega) (by omega))
theorem wt_okN {a k w : Int} (h : 0 < w) (h4 : w ≤ 4) : IntMulOk a (-16 ^ (k.fmod w).toNat) := by
  have := pow16_le (k := k) h h4
  exact IntMulOk.of_right (intBits_le_64 (by omega) (by omega))
theorem alt_neg {ks pre : List Int} {w tot k : Int} (h : AltInv ks w pre tot) (hk : k = 0 + (pre.length : Int)) (hb : (k.fdiv w).fmod 2 = 1) :
    AltInv ks w (pre ++ [k]) (tot + (figs ks).getD k.toNat 0 * -16 ^ (k.fmod w).toNat) := by
  have e : k = (pre.length : Int) := by omega
  have e2 : k.toNat = pre.length := by omega
  refine ⟨?_⟩
  rw [List.length_append, h.eq, e2]
  show _ = altS (figs ks) w pre.length + (figs ks).getD pre.length 0 * wt w pre.length
  unfold wt
  rw [← e, if_pos hb]
theorem alt_pos {ks pre : List Int} {w tot k : Int} (h : AltInv ks w pre tot) (hk : k = 0 + (pre.length : Int)) (hb : ¬ (k.fdiv w).fmod 2 = 1) :
    AltInv ks w (pre ++ [k]) (tot + (figs ks).getD k.toNat 0 * 16 ^ (k.fmod w).toNat) := by
  have e : k = (pre.length : Int) := by omega
  have e2 : k.toNat = pre.length := by omega
  refine ⟨?_⟩
  rw [List.length_append, h.eq, e2]
  show _ = altS (figs ks) w pre.length + (figs ks).getD pre.length 0 * wt w pre.length
  unfold wt
  rw [← e, if_neg hb]
theorem alt_start {ks : List Int} {width : Int} : AltInv ks width [] 0 := ⟨rfl⟩
end Mine
end
section
open PySem PySem.W PyProof.Rows
namespace Mine
def shares : List Int := [65537, 257, 17, 15, 5, 3, 1, 4294967295]
structure ShareInv (sh : Int) : Prop where
  mem : sh ∈ shares
structure GapInv (gap : Int) : Prop where
  ex : ∃ o : Fin 16, ∃ sh ∈ shares, gap = (o.val : Int) * (4294967295 / sh)
theorem ShareInv.ne {sh : Int} (h : ShareInv sh) : sh ≠ 0 := by
  have : ∀ x ∈ shares, x ≠ 0 := by decide
  exact this _ h.mem
theorem GapInv.of {r sh : Int} (h : ShareInv sh) : GapInv (r.fmod 16 * Int.fdiv 4294967295 sh) := by
  have e : ∀ x ∈ shares, Int.fdiv 4294967295 x = 4294967295 / x := by decide
  have h0 : 0 ≤ r.fmod 16 := Int.fmod_nonneg_of_pos _ (by decide)
  have h1 : r.fmod 16 < 16 := Int.fmod_lt_of_pos _ (by decide)
  refine ⟨⟨(r.fmod 16).toNat, by omega⟩, sh, h.mem, ?_⟩
  rw [e _ h.mem]
  congr 1
  exact (Int.toNat_of_nonneg h0).symm
theorem GapInv.bnd {gap : Int} (h : GapInv gap) : 0 ≤ gap ∧ gap ≤ 64424509425 := by
  have : ∀ o : Fin 16, ∀ sh ∈ shares, 0 ≤ (o.val : Int) * (4294967295 / sh) ∧ (o.val : Int) * (4294967295 / sh) ≤ 64424509425 := by decide +kernel
  obtain ⟨o, sh, hs, rfl⟩ := h.ex
  exact this o sh hs
theorem gap_rests {gap : Int} (h : GapInv gap) : restsL (apI (-gap)) = [gap.fmod 15, gap.fmod 17, gap.fmod 257, gap.fmod 65537] := by
  have : ∀ o : Fin 16, ∀ sh ∈ shares, restsL (apI (-((o.val : Int) * (4294967295 / sh)))) = [((o.val : Int) * (4294967295 / sh)).fmod 15, ((o.val : Int) * (4294967295 / sh)).fmod 17, ((o.val : Int) * (4294967295 / sh)).fmod 257, ((o.val : Int) * (4294967295 / sh)).fmod 65537] := by decide +kernel
  obtain ⟨o, sh, hs, rfl⟩ := h.ex
  exact this o sh hs
end Mine
end
section
open PySem PySem.W PyProof.Rows
namespace Mine
/-! crcStep is linear -/
theorem step_xor (a b : Nat) : crcStep (a ^^^ b) = crcStep a ^^^ crcStep b := by
  have e1 : (a ^^^ b) / 2 = a / 2 ^^^ b / 2 := Nat.xor_div_two
  have e3 : (a ^^^ b) % 2 = (a % 2 + b % 2) % 2 := by
    have := Nat.testBit_xor a b 0
    simp only [Nat.testBit_zero] at this
    rcases Nat.mod_two_eq_zero_or_one a with x | x <;> rcases Nat.mod_two_eq_zero_or_one b with y | y <;> rcases Nat.mod_two_eq_zero_or_one (a ^^^ b) with c | c <;> simp only [x, y, c] at this ⊢ <;> first | rfl | (exact absurd this (by decide))
  unfold crcStep
  rcases Nat.mod_two_eq_zero_or_one a with x | x <;> rcases Nat.mod_two_eq_zero_or_one b with y | y <;> simp only [x, y] at e3 <;> simp only [x, y, e3, e1]
  · simp
  · simp [Nat.xor_assoc]
  · simp only [show ¬ (0 : Nat) = 1 by decide, if_false, if_true]
    rw [Nat.xor_assoc, Nat.xor_assoc, Nat.xor_comm (b / 2)]
  · simp only [show ¬ ((1 + 1) % 2 : Nat) = 1 by decide, if_false, if_true]
    rw [Nat.xor_assoc, ← Nat.xor_assoc 3988292384, Nat.xor_comm 3988292384, Nat.xor_assoc (b / 2), Nat.xor_self, Nat.xor_zero]
theorem crcN_xor (n a b : Nat) : crcN n (a ^^^ b) = crcN n a ^^^ crcN n b := by
  induction n with
  | zero => rfl
  | succ n ih => show crcStep _ = crcStep _ ^^^ crcStep _; rw [ih, step_xor]
theorem crcN_zero (n : Nat) : crcN n 0 = 0 := by
  induction n with
  | zero => rfl
  | succ n ih => show crcStep _ = _; rw [ih]; rfl
theorem step_lt {c : Nat} (h : c < 4294967296) : crcStep c < 4294967296 := by
  unfold crcStep
  split
  · exact Nat.xor_lt_two_pow (n := 32) (by omega) (by decide)
  · omega
theorem crcN_lt {c : Nat} (h : c < 4294967296) (n : Nat) : crcN n c < 4294967296 := by
  induction n with
  | zero => exact h
  | succ n ih => exact step_lt ih
/-- a step is undone: the top bit tells which way it came -/
theorem step_inj {a b : Nat} (ha : a < 4294967296) (hb : b < 4294967296) (h : crcStep a = crcStep b) : a = b := by
  have key : ∀ c, c < 4294967296 → crcStep c = 0 → c = 0 := by
    intro c hc h0
    unfold crcStep at h0
    split at h0
    · rename_i h1
      have e : c / 2 = 3988292384 := by
        have : (c / 2 ^^^ 3988292384) ^^^ 3988292384 = 0 ^^^ 3988292384 := by rw [h0]
        rw [Nat.xor_assoc, Nat.xor_self, Nat.xor_zero] at this
        simpa using this
      omega
    · omega
  have hx : crcStep (a ^^^ b) = 0 := by rw [step_xor, h, Nat.xor_self]
  have h0 := key _ (Nat.xor_lt_two_pow (n := 32) ha hb) hx
  have : (a ^^^ b) ^^^ b = 0 ^^^ b := by rw [h0]
  rw [Nat.xor_assoc, Nat.xor_self, Nat.xor_zero] at this
  simpa using this
theorem crcN_inj {a b : Nat} (ha : a < 4294967296) (hb : b < 4294967296) (n : Nat) (h : crcN n a = crcN n b) : a = b := by
  induction n with
  | zero => exact h
  | succ n ih => exact ih (step_inj (crcN_lt ha n) (crcN_lt hb n) h)
end Mine
end
section
open PySem PySem.W PyProof.Rows
namespace Mine
theorem bit_xor (a b k : Nat) : (a ^^^ b) / 2 ^ k % 2 = (a / 2 ^ k % 2 + b / 2 ^ k % 2) % 2 := by
  have e : ∀ c : Nat, c / 2 ^ k % 2 = (c.testBit k).toNat := by
    intro c
    rw [Nat.testBit_eq_decide_div_mod_eq]
    rcases Nat.mod_two_eq_zero_or_one (c / 2 ^ k) with x | x <;> simp [x]
  rw [e, e, e, Nat.testBit_xor]
  cases a.testBit k <;> cases b.testBit k <;> rfl
theorem leapN_xor (p a b : Nat) : leapN p (a ^^^ b) = leapN p a ^^^ leapN p b := by
  induction p with
  | zero => simp [leapN]
  | succ p ih =>
    unfold leapN
    rw [ih]
    have e := bit_xor a b (31 - p)
    rcases Nat.mod_two_eq_zero_or_one (a / 2 ^ (31 - p)) with x | x <;> rcases Nat.mod_two_eq_zero_or_one (b / 2 ^ (31 - p)) with y | y <;> simp only [x, y] at e <;> simp only [x, y, e]
    · simp
    · simp [Nat.xor_assoc]
    · simp only [show ¬ (0 : Nat) = 1 by decide, if_false, if_true]
      rw [Nat.xor_assoc, Nat.xor_assoc, Nat.xor_comm (leapN p b)]
    · simp only [show ¬ ((1 + 1) % 2 : Nat) = 1 by decide, if_false, if_true]
      rw [Nat.xor_assoc, ← Nat.xor_assoc (pwN p), Nat.xor_comm (pwN p), Nat.xor_assoc (leapN p b), Nat.xor_self, Nat.xor_zero]
theorem leapN_zero (p : Nat) : leapN p 0 = 0 := by
  induction p with
  | zero => rfl
  | succ p ih => unfold leapN; rw [ih]; simp
/-- two linear maps that agree at the 32 bits agree below 2^32 -/
theorem lin_ext {f g : Nat → Nat} (hf : ∀ a b, f (a ^^^ b) = f a ^^^ f b) (hg : ∀ a b, g (a ^^^ b) = g a ^^^ g b) (h0 : f 0 = g 0) :
    ∀ n, (∀ i, i < n → f (2 ^ i) = g (2 ^ i)) → ∀ c, c < 2 ^ n → f c = g c := by
  intro n
  induction n with
  | zero => intro _ c hc; have : c = 0 := by simpa using hc
            rw [this, h0]
  | succ n ih =>
    intro h c hc
    have ih' := ih (fun i hi => h i (by omega))
    by_cases hlt : c < 2 ^ n
    · exact ih' c hlt
    · have e : c = (c - 2 ^ n) ^^^ 2 ^ n := by
        have h2 : c - 2 ^ n < 2 ^ n := by rw [Nat.pow_succ] at hc; omega
        have := Nat.two_pow_add_eq_or_of_lt h2 1
        have e2 : (c - 2 ^ n) &&& 2 ^ n = 0 := by
          apply Nat.eq_of_testBit_eq
          intro i
          rw [Nat.testBit_and, Nat.testBit_two_pow, Nat.zero_testBit]
          by_cases e : n = i
          · subst e; rw [Nat.testBit_lt_two_pow h2]; rfl
          · simp [e]
        have := nat_xor_and (c - 2 ^ n) (2 ^ n)
        rw [e2] at this
        omega
      have h2 : c - 2 ^ n < 2 ^ n := by rw [Nat.pow_succ] at hc; omega
      rw [e, hf, hg, ih' _ h2, h n (by omega)]
theorem leap_gen_bits : ∀ i : Fin 32, leapN 32 (crcN 8 (2 ^ i.val)) = crcN 128 (leapN 32 (2 ^ i.val)) := by decide +kernel
theorem leap_gen {c : Nat} (h : c < 4294967296) : leapN 32 (crcN 8 c) = crcN 128 (leapN 32 c) :=
  lin_ext (f := fun c => leapN 32 (crcN 8 c)) (g := fun c => crcN 128 (leapN 32 c)) (fun a b => by simp only [crcN_xor, leapN_xor]) (fun a b => by simp only [crcN_xor, leapN_xor]) (by simp only [crcN_zero, leapN_zero]) 32
    (fun i hi => leap_gen_bits ⟨i, hi⟩) c h
theorem leap_one_ : leapN 32 2147483648 = 2147483648 := by decide +kernel
theorem leap_gens (k : Nat) : leapN 32 (crcN (8 * k) 2147483648) = crcN (128 * k) 2147483648 := by
  induction k with
  | zero => exact leap_one_
  | succ k ih =>
    have e1 : 8 * (k + 1) = 8 + 8 * k := by omega
    have e2 : 128 * (k + 1) = 128 + 128 * k := by omega
    rw [e1, e2, crcN_add, crcN_add, leap_gen (crcN_lt (by decide) _), ih]
theorem genIt_cast (n c : Nat) : genIt n ((c : Nat) : Int) = ((crcN (8 * n) c : Nat) : Int) := by
  induction n with
  | zero => rfl
  | succ n ih =>
    show genI (genIt n c) = _
    rw [ih]
    unfold genI
    rw [Int.toNat_natCast, ← crcN_add]
    congr 2
    omega
theorem walk_digs : ∀ (f n : Nat), n < 16 ^ f → walkL (digs f n) = ((crcN (8 * n) 2147483648 : Nat) : Int)
  | 0, n, h => by
    have : n = 0 := by simpa using h
    subst this; rfl
  | f + 1, n, h => by
    unfold digs
    split
    · rename_i e; subst e; rfl
    · have h2 : n / 16 < 16 ^ f := by rw [Nat.pow_succ] at h; omega
      rw [walkL_snoc, walk_digs f _ h2]
      have e1 : (((n % 16 : Nat) : Int) + 65 - 65).toNat = n % 16 := by omega
      have e2 : leapI ((crcN (8 * (n / 16)) 2147483648 : Nat) : Int) = ((crcN (128 * (n / 16)) 2147483648 : Nat) : Int) := by
        unfold leapI
        rw [Int.toNat_natCast, leap_gens]
      rw [e1, e2, genIt_cast, ← crcN_add]
      congr 2
      omega
theorem walk_at_ {n : Int} (h0 : 0 ≤ n) (h1 : n < 18446744073709551616) : walkL (apI n) = ((crcN (8 * n.toNat) 2147483648 : Nat) : Int) := by
  unfold apI
  have e : n.natAbs = n.toNat := by omega
  rw [e]
  exact walk_digs 16 _ (by have : (16 : Nat) ^ 16 = 18446744073709551616 := by decide
                           omega)
theorem walk_succ {n : Int} (h0 : 0 ≤ n) (h1 : n < 1152921504606846976) : walkL (apI (n + 1)) = genI (walkL (apI n)) := by
  rw [walk_at_ (by omega) (by omega), walk_at_ h0 (by omega)]
  unfold genI
  rw [Int.toNat_natCast, ← crcN_add]
  congr 2
  omega
end Mine
end
section
open PySem PySem.W PyProof.Rows
namespace Mine
theorem walkL_nonneg (ls : List Int) : 0 ≤ walkL ls := by
  rcases List.eq_nil_or_concat ls with rfl | ⟨l, d, rfl⟩
  · decide
  · rw [List.concat_eq_append, walkL_snoc]
    exact genIt_nonneg (leapI_nonneg _) _
theorem home_all : walkL (apI 4294967295) = 2147483648 := by decide +kernel
theorem home_crc : crcN (8 * 4294967295) 2147483648 = 2147483648 := by
  have h := walk_at_ (n := 4294967295) (by decide) (by decide)
  rw [home_all] at h
  have e : (8 * (4294967295 : Int).toNat) = 8 * 4294967295 := by decide
  rw [e] at h
  exact (Int.ofNat.inj h).symm
theorem home_more (r : Nat) : ∀ q, crcN (8 * (4294967295 * q + r)) 2147483648 = crcN (8 * r) 2147483648
  | 0 => by simp
  | q + 1 => by
    have e : 8 * (4294967295 * (q + 1) + r) = 8 * (4294967295 * q + r) + 8 * 4294967295 := by omega
    rw [e, crcN_add, home_crc, home_more r q]
theorem home_mod (n : Nat) : crcN (8 * n) 2147483648 = crcN (8 * (n % 4294967295)) 2147483648 := by
  have := home_more (n % 4294967295) (n / 4294967295)
  rw [Nat.div_add_mod] at this
  exact this
theorem home_mul {g : Nat} (h : crcN (8 * g) 2147483648 = 2147483648) : ∀ c, crcN (8 * (c * g)) 2147483648 = 2147483648
  | 0 => by rw [Nat.zero_mul]; rfl
  | c + 1 => by
    have e : 8 * ((c + 1) * g) = 8 * (c * g) + 8 * g := by rw [Nat.add_mul, Nat.one_mul, Nat.mul_add]
    rw [e, crcN_add, h, home_mul h c]
/-- what a gap is to be multiplied by to come to a third, a fifth, .. of 4294967295 -/
def homeTab : List Nat := [0, 1, 32769, 21846, 49153, 26215, 10923, 18725, 57345, 7282, 45876, 5958, 38230, 15124, 42131, 30584, 0, 1, 129, 86, 193, 103, 43, 147, 225, 200, 180, 187, 150, 178, 202, 120, 0, 1, 9, 6, 13, 7, 3, 5, 15, 2, 12, 14, 10, 4, 11, 8, 0, 5, 10, 1, 5, 1, 3, 5, 10, 2, 2, 10, 4, 5, 10, 0, 0, 1, 3, 2, 4, 0, 1, 3, 2, 4, 0, 1, 3, 2, 4, 0, 0, 1, 2, 0, 1, 2, 0, 1, 2, 0, 1, 2, 0, 1, 2, 0, 0, 0, 0, 0, 0, 0, 0, 0, 0, 0, 0, 0, 0, 0, 0, 0, 0, 1431655765, 2863311530, 286331153, 1431655765, 286331153, 858993459, 1431655765, 2863311530, 572662306, 572662306, 2863311530, 1145324612, 1431655765, 2863311530, 16843009]
def farL : List Nat := [1431655765, 858993459, 252645135, 16711935, 65535]
theorem far_away : ∀ b ∈ farL, walkL (apI ((b : Nat) : Int)) ≠ 2147483648 := by decide +kernel
theorem far_crc {b : Nat} (hb : b ∈ farL) : crcN (8 * b) 2147483648 ≠ 2147483648 := by
  have hlt : ∀ b ∈ farL, ((b : Nat) : Int) < 18446744073709551616 := by decide
  have h := far_away b hb
  rw [walk_at_ (Int.natCast_nonneg _) (hlt b hb), Int.toNat_natCast] at h
  intro e
  rw [e] at h
  exact h rfl
theorem share_at : ∀ sh ∈ shares, ∃ k : Fin 8, shares.getD k.val 0 = sh := by decide
theorem gap_cases : ∀ o : Fin 16, ∀ k : Fin 8, ((o.val : Int) * (4294967295 / shares.getD k.val 0)).toNat % 4294967295 = 0 ∨ (homeTab.getD (16 * k.val + o.val) 0 * ((o.val : Int) * (4294967295 / shares.getD k.val 0)).toNat) % 4294967295 ∈ farL := by decide +kernel
theorem gap_zeros : ∀ o : Fin 16, ∀ k : Fin 8, decide (((o.val : Int) * (4294967295 / shares.getD k.val 0)).toNat % 4294967295 = 0) = decide ([((o.val : Int) * (4294967295 / shares.getD k.val 0)).fmod 15, ((o.val : Int) * (4294967295 / shares.getD k.val 0)).fmod 17, ((o.val : Int) * (4294967295 / shares.getD k.val 0)).fmod 257, ((o.val : Int) * (4294967295 / shares.getD k.val 0)).fmod 65537] = [0, 0, 0, 0]) := by decide +kernel
theorem gap_home {gap : Int} (h : GapInv gap) : decide (walkL (apI gap) = 2147483648) = decide ([gap.fmod 15, gap.fmod 17, gap.fmod 257, gap.fmod 65537] = [0, 0, 0, 0]) := by
  have hb := h.bnd
  obtain ⟨o, sh, hs, e⟩ := h.ex
  obtain ⟨k, hk⟩ := share_at sh hs
  rw [← hk] at e
  have hc := gap_cases o k
  have hz := gap_zeros o k
  rw [← e] at hc hz
  rw [← hz, walk_at_ hb.1 (by omega)]
  have key : (((crcN (8 * gap.toNat) 2147483648 : Nat) : Int) = 2147483648) ↔ gap.toNat % 4294967295 = 0 := by
    have e9 : (((crcN (8 * gap.toNat) 2147483648 : Nat) : Int) = 2147483648) ↔ crcN (8 * gap.toNat) 2147483648 = 2147483648 :=
      ⟨fun q => Int.ofNat.inj q, fun q => congrArg Int.ofNat q⟩
    rw [e9]
    constructor
    · intro q
      rcases hc with hc | hc
      · exact hc
      · exact absurd ((home_mod _).symm.trans (home_mul q _)) (far_crc hc)
    · intro q
      rw [home_mod, q]
      rfl
  simp only [key]
theorem walk_same {n gap : Int} (h0 : 0 ≤ n) (h1 : n < 1152921504606846976) (h : GapInv gap) : (walkL (apI n) = walkL (apI (n + gap))) ↔ walkL (apI gap) = 2147483648 := by
  have hb := h.bnd
  rw [walk_at_ h0 (by omega), walk_at_ (by omega) (by omega), walk_at_ hb.1 (by omega)]
  have e : 8 * (n + gap).toNat = 8 * n.toNat + 8 * gap.toNat := by omega
  rw [e, crcN_add]
  constructor
  · intro q
    have q' := crcN_inj (a := 2147483648) (by decide) (crcN_lt (by decide) _) _ (Int.ofNat.inj q)
    rw [← q']
    rfl
  · intro q
    have q' : crcN (8 * gap.toNat) 2147483648 = 2147483648 := by
      have : ((crcN (8 * gap.toNat) 2147483648 : Nat) : Int) = ((2147483648 : Nat) : Int) := q
      exact Int.ofNat.inj this
    rw [q']
theorem law_end {n gap : Int} (h0 : 0 ≤ n) (h1 : n < 1152921504606846976) (h : GapInv gap) :
    ((walkL (apI n) == walkL (apI (n + gap))) == decide ([gap.fmod 15, gap.fmod 17, gap.fmod 257, gap.fmod 65537] = [0, 0, 0, 0])) = true := by
  rw [← gap_home h]
  have e : (walkL (apI n) == walkL (apI (n + gap))) = decide (walkL (apI gap) = 2147483648) := by
    rw [Bool.eq_iff_iff, beq_iff_eq, decide_eq_true_iff]
    exact walk_same h0 h1 h
  rw [e]
  simp
def tapL : List Int := [26, 23, 22, 16, 12, 11, 10, 8, 7, 5, 4, 2, 1, 0]
theorem tap_bnd {k : Int} (h : k ∈ tapL) : 0 ≤ k ∧ k ≤ 26 := (show ∀ x ∈ tapL, 0 ≤ x ∧ x ≤ 26 by decide) k h
theorem pw_two : pwI.getD (Int.toNat 2) 0 = (List.map (fun k9 : Int => (2 : Int) ^ (31 - k9).toNat) tapL).sum := by decide +kernel
end Mine
end
section
open PySem PySem.W PyProof.Rows
namespace Mine
set_option maxRecDepth 100000 in
set_option maxHeartbeats 8000000 in
open_top hd for PySem.Challenge.rw_pe0016_01
end Mine
end
section
open PySem PySem.W PyProof.Rows PySem.Calls PySem.Spec PyProof.V
namespace Mine
/-- a bytes from its end to its front -/
def flipB (b : Array UInt8) : Array UInt8 := ⟨b.toList.reverse⟩
theorem flipB_ints {b : Array UInt8} {ks : List Int} (h : KBw.bInts b = ks) : KBw.bInts (flipB b) = ks.reverse := by
  rw [← h]
  exact List.map_reverse
theorem flipB_size (b : Array UInt8) : (flipB b).size = b.size := by simp [flipB]
theorem flipB_cut (b : Array UInt8) : Builtin.Bytes.sliced b ((b.size : Int) - 1) (-1) (-1) = flipB b := by
  simp only [Builtin.Bytes.sliced, flipB, krv_all, krv_range, krv_sliceRange, List.filterMap_reverse]
section
variable {prog : Program} {w : World} {A : Around} {E : Value → Shared → Prop} {s : Shared} {a : Addr} {ts : Tok}
theorem flip_key (h : s.heap.IsSliceOf a .none .none (.int (-1) ts)) : wpAny (model prog w) A (Builtin.Bytes.subscript? (.ref a)) (fun r s' => r = none ∧ s' = s) E s := by
  have hT : s.TypeIs (.ref a) "slice" := let ⟨o, ho, hc, _⟩ := h; ⟨o, ho, hc⟩
  simp only [Builtin.Bytes.subscript?]
  exact wpAny_bind (wpAny_specialOf hT slice_no_index (wpAny_pure ⟨rfl, rfl⟩))
theorem flip_parts (h : s.heap.IsSliceOf a .none .none (.int (-1) ts)) : wpAny (model prog w) A (Builtin.Bytes.sliceParts (.ref a)) (fun r s' => r = (.none, .none, rawInt (-1)) ∧ s' = s) E s := by
  obtain ⟨o, ho, _, hd⟩ := h
  have cell : ∀ (i : Nat) (x : Value) (Q : Value → Shared → Prop), [Value.none, .none, .int (-1) ts][i]? = some x → Q x s → wpAny (model prog w) A (field (.ref a) i) Q E s :=
    fun i x Q hx hQ => wpAny_field ho hd (by simpa using hx) hQ
  have isInt : s.TypeIs (Value.int (-1) ts) "int" := rfl
  simp only [Builtin.Bytes.sliceParts]
  refine wpAny_bind (cell 2 (.int (-1) ts) _ rfl (wpAny_bind ?_))
  rw [show (Value.int (-1) ts == Value.none) = false from rfl, if_neg Bool.false_ne_true]
  refine wpAny_bind (wpAny_specialOf isInt F.slot_int_index.lookup ?_)
  rw [if_neg (by decide)]
  refine wpAny_bind (wpAny_of_eq (a := (-1 : Int)) rfl (wpAny_pure ?_))
  rw [if_neg (by decide : ¬ ((rawInt (-1) == rawInt 0) = true))]
  exact wpAny_bind (cell 0 .none _ rfl (wpAny_bind (wpAny_pure (wpAny_bind (cell 1 .none _ rfl (wpAny_bind (wpAny_pure (wpAny_pure ⟨rfl, rfl⟩))))))))
theorem flip_span (n : Nat) : wpAny (model prog w) A (sliceIndices .none .none (rawInt (-1)) n) (fun r s' => r = ((n : Int) - 1, -1, -1) ∧ s' = s) E s :=
  wpAny_of_eq (sliceIndices_raw none none (some (-1)) n (by decide)) ⟨krv_bounds n, rfl⟩
end
/-- b[::-1] in the model -/
theorem flip_item (b : Array UInt8) (t : Tok) (a : Addr) (ts : Tok) :
    Meets (Builtin.«bytes.__getitem__» ⟨[.bytes b t, .ref a], []⟩)
      (fun _ R s => s.heap.IsSliceOf a .none .none (.int (-1) ts) ∧ (flipB b).size ≤ sizeLine ∧ ∀ u k, R (.ok (.ret (.bytes (flipB b) u))) { s with toks := k }) := by
  refine .of_wp fun prog w A R s ⟨hs, hz, hR⟩ => ?_
  obtain ⟨o, ho, hc, _⟩ := id hs
  unfold Builtin.«bytes.__getitem__»
  refine wpAny_bind (wpAny_of_eq rfl (wpAny_bind (wpAny_of_eq (a := b) rfl (wpAny_bind (wpAny_mono (flip_key hs) (fun r _ hr => ?_) fun _ _ e => e)))))
  obtain ⟨rfl, rfl⟩ := hr
  refine wpAny_bind (wpAny_typeOf ⟨o, ho, hc⟩ ?_)
  rw [if_neg (by decide)]
  refine wpAny_bind (wpAny_mono (flip_parts hs) (fun r _ hr => ?_) fun _ _ e => e)
  obtain ⟨rfl, rfl⟩ := hr
  refine wpAny_bind (wpAny_mono (flip_span _) (fun r _ hr => ?_) fun _ _ e => e)
  obtain ⟨rfl, rfl⟩ := hr
  show wpAny _ _ (if _ then _ else (mkBytes (Builtin.Bytes.sliced b ((b.size : Int) - 1) (-1) (-1)) >>= fun v => ret v)) _ _ _
  rw [if_neg (by simp), flipB_cut]
  exact wpAny_bind (wpAny_mkBytes (wpAny_pure ⟨_, rfl, hR _ _⟩) hz)
section
variable {prog : Program} {w : World} {A : Around} {E : Value → Shared → Prop} {s : Shared} {b : Array UInt8} {t ts : Tok} {h₀ : Heap} {L : Addr} {m : Str → Option Value} {news : List (Addr × Obj)} {Q : Value → Shared → Prop} {ks : List Int}
/-- the slice stands made; its bytes come from behind -/
theorem flip_on (F : Fr h₀ L s.heap m) (N : News h₀ L s.heap news) (hk : KBw.bInts b = ks) (hz : ks.length ≤ 16777216)
    (h : ∀ b' h' u k, KBw.bInts b' = ks.reverse → Fr h₀ L h' m → News h₀ L h' news → Q (.bytes b' u) { s with heap := h', toks := k }) :
    ItemOn (model prog w) A E (.bytes b t) (.ref s.heap.objs.size) Q { s with heap := s.heap.push { cls := .type "slice", data := .fields #[.none, .none, .int (-1) ts] } } := by
  have hb : ∀ s' : Shared, s'.TypeIs (.bytes b t) "bytes" := fun s' => typeIs_bytes s' b t
  have room : (flipB b).size ≤ sizeLine := by
    rw [flipB_size, ← KBw.ints_length, hk, sizeLine_eq]
    exact hz
  refine ⟨"bytes", _, FB.slot_bytes_getitem.lookup, hb _, ?_⟩
  refine getItem_meets (hb _) (by decide) FB.slot_bytes_getitem FB.entry_bytes_getitem (FB.args_bytes_getitem_2 _ _) (flip_item b t _ ts) ?_
  exact ⟨.new _ _ _ _, room, fun u k => h _ _ u k (flipB_ints hk) (F.push _) (News.pushKeep N _)⟩
end
end Mine
end
section
open PySem PySem.W PyProof.Rows PySem.Calls PySem.Spec
namespace Mine
/-- to walk through v gives the ints ks, and all that stood before stands on -/
def Feeds (prog : Program) (w : World) (A : Around) (v : Value) (ks : List Int) (s : Shared) : Prop :=
  ∀ (K E : Value → Shared → Prop),
    (∀ (o : Obj) (fp : List Addr) (P : Nat → Value → Prop) (St : Nat → Heap → Prop), Walks prog w A s.heap.objs.size fp [s.heap.objs.size] ks.length P St → St 0 (s.heap.push o) →
      (∀ a ∈ fp, a ≤ s.heap.objs.size) → (∀ j u, P j u → ∃ k t, ks[j]? = some k ∧ u = .int k t) → K (.ref s.heap.objs.size) { s with heap := s.heap.push o }) →
    wpAny (model prog w) A (pyIter v) K E s
section
variable {prog : Program} {w : World} {A : Around} {s : Shared} {ks : List Int}
theorem feeds_bytes {b : Array UInt8} {t : Tok} (hh : A.handled = none) (hk : KBw.bInts b = ks) : Feeds prog w A (.bytes b t) ks s := by
  intro K E hK
  have W := KBw.walks (prog := prog) (w := w) hh s.heap.objs.size b t
  rw [← KBw.ints_length, hk] at W
  refine KBw.pyIter_bytes (hK _ _ _ _ W ⟨_, Heap.get?_push_size _ rfl, rfl, rfl⟩ (fun a ha => ?_) ?_)
  · exact Nat.le_of_eq (List.mem_singleton.mp ha)
  · rintro j u ⟨c, t', hc, rfl⟩
    exact ⟨_, t', hk ▸ KBw.ints_get hc, rfl⟩
theorem feeds_tuple {h₀ : Heap} {L ax : Addr} {vs : List Value} {nn : Nat} {news : List (Addr × Obj)} (hh : A.handled = none) (N : News h₀ L s.heap news)
    (hm : (ax, ({ cls := .type "tuple", data := .seq vs.toArray nn } : Obj)) ∈ news) (hi : IntsAre vs ks) : Feeds prog w A (.ref ax) ks s := by
  intro K E hK
  have here := (N _ hm).1
  have old : ax < s.heap.objs.size := Heap.lt_size here
  have W := Walks.tuple (prog := prog) (w := w) hh s.heap.objs.size ax (Nat.ne_of_lt old) vs.toArray
  rw [show vs.toArray.size = ks.length from hi.length] at W
  refine wpAny_pyIter_tuple ⟨_, here, rfl, nn, rfl⟩ (hK _ _ _ _ W ⟨⟨_, Heap.get?_push_size _ rfl, rfl, rfl⟩, _, Heap.get?_push_of_some _ here, rfl, nn, rfl⟩ (fun a ha => ?_) fun j u hu => ?_)
  · rcases List.mem_cons.mp ha with e | ha
    · exact Nat.le_of_eq e
    · exact Nat.le_of_lt (List.mem_singleton.mp ha ▸ old)
  · obtain ⟨k, t, e, hk⟩ := hi.at j u (by simpa using hu)
    exact ⟨k, t, hk, e⟩
end
/-- a turn's end: the int n, and nothing of before is touched -/
def Gives (n : Int) (s : Shared) (v : Value) (s' : Shared) : Prop := (∃ t, v = .int n t) ∧ Keeps s s'
/-- what a comprehension of g's ints wants of the value v that it goes through; fin is what is wanted behind it -/
def Each (prog : Program) (w : World) (A : Around) (h₀ : Heap) (L : Addr) (m : Str → Option Value) (elt : Expr) (own : Addr → Env) (x : Str) (g : Int → Int) (fin : Shared → List Int → List (Addr × Obj) → Prop) (v : Value) (s : Shared) : Prop :=
  ∃ ks news, Feeds prog w A v ks s ∧ ks.length ≤ sizeLine ∧ Fr h₀ L s.heap m ∧ News h₀ L s.heap news ∧
    (∀ (k : Int) (t : Tok) (C : Addr) (oC : Obj) (m₂ : Str → Option Value) (E' : Value → Shared → Prop) (s₂ : Shared), k ∈ ks → LCg.NsObj oC m₂ → m₂ x = some (.int k t) → Fr h₀ L s₂.heap m → News h₀ L s₂.heap ((C, oC) :: news) →
      wpAny (model prog w) A (eval elt (own C)) (Gives (g k) s₂) E' s₂) ∧ fin s (ks.map g) news
/-- behind a comprehension that is a value -/
def MadeE (h₀ : Heap) (L : Addr) (m : Str → Option Value) (Q : Value → Shared → Prop) (s : Shared) (ns : List Int) (news : List (Addr × Obj)) : Prop :=
  ∀ (D : Addr) (vs : List Value) (nn : Nat) (h : Heap) (tk : Nat), IntsAre vs ns → Fr h₀ L h m → News h₀ L h ((D, listOf vs.toArray nn) :: news) → (∀ p ∈ news, p.1 ≠ D) → Q (.ref D) { s with heap := h, toks := tk }
/-- behind a comprehension that a name is bound to -/
def MadeA (h₀ : Heap) (L : Addr) (m : Str → Option Value) (y : Str) (Q : Flow → Shared → Prop) (s : Shared) (ns : List Int) (news : List (Addr × Obj)) : Prop :=
  ∀ (D : Addr) (vs : List Value) (nn : Nat) (h : Heap) (tk : Nat), IntsAre vs ns → Fr h₀ L h (fun z => if z = y then some (.ref D) else m z) → News h₀ L h ((D, listOf vs.toArray nn) :: news) → (∀ p ∈ news, p.1 ≠ D) → Q .next { s with heap := h, toks := tk }
def Turn (g : Int → Int) (v y : Value) : Prop := ∃ k t u, v = .int k t ∧ y = .int (g k) u
theorem turns_ints {g : Int → Int} : ∀ {vs ys : List Value} {ks : List Int}, vs.length = ks.length → (∀ (j : Nat) (v : Value), vs[j]? = some v → ∃ k t, ks[j]? = some k ∧ v = .int k t) → Paired (Turn g) vs ys → IntsAre ys (ks.map g)
  | [], _, [], _, _, .nil => .nil
  | _ :: _, _, [], hl, _, _ => nomatch hl
  | v :: vs, _, k :: ks, hl, hv, .cons ⟨k₁, _, u, e₁, e₂⟩ r => by
    obtain ⟨k₂, _, e₃, e₄⟩ := hv 0 v rfl
    cases e₁.symm.trans e₄
    cases e₃
    subst e₂
    exact .cons _ u (turns_ints (Nat.succ.inj hl) (fun j => hv (j + 1)) r)
end Mine
end
section
open PySem PySem.W PyProof.Rows PySem.Calls PySem.Spec
namespace Mine
section
variable {prog : Program} {w : World} {A : Around} {E : Value → Shared → Prop} {s₁ s : Shared} {h₀ : Heap} {L : Addr} {m : Str → Option Value} {env : Env} {elt iter : Expr} {x y : Str} {scope : Scope} {cl : List (Str × Addr)} {g : Int → Int} {o : Obj} {news : List (Addr × Obj)} {ks : List Int}
theorem old_kept {h' : Heap} {a : Addr} {q : Obj} (hk : ∀ b p, b ∉ [s₁.heap.objs.size] → (s₁.heap.push o).get? b = some p → h'.get? b = some p) (e : s₁.heap.get? a = some q) : h'.get? a = some q :=
  hk a q (fun hm => Nat.lt_irrefl _ (List.mem_singleton.mp hm ▸ Heap.lt_size e)) (Heap.get?_push_of_some _ e)
/-- a turn of an Each, as the library's rule for any walk wants it -/
theorem each_turn {P : Nat → Value → Prop} (F : Fr h₀ L s₁.heap m) (N : News h₀ L s₁.heap news) (hP : ∀ j u, P j u → ∃ k t, ks[j]? = some k ∧ u = .int k t)
    (turn : ∀ (k : Int) (t : Tok) (C : Addr) (oC : Obj) (m₂ : Str → Option Value) (E' : Value → Shared → Prop) (s₂ : Shared), k ∈ ks → LCg.NsObj oC m₂ → m₂ x = some (.int k t) → Fr h₀ L s₂.heap m → News h₀ L s₂.heap ((C, oC) :: news) →
      wpAny (model prog w) A (eval elt (compEnvC scope cl C env)) (Gives (g k) s₂) E' s₂) :
    QuietOnC prog w A env scope cl x [] elt [s₁.heap.objs.size] P (fun _ => true) (Turn g) { s₁ with heap := s₁.heap.push o } where
  tests := fun _ _ _ _ _ _ _ _ _ _ _ _ => wpAny_tests_nil ⟨rfl, _, _, rfl, fun _ _ e => e⟩
  elt := fun C j v s₂ m₂ E' hC hv _ hn hx hk _ => by
    obtain ⟨k, t, hj, rfl⟩ := hP j v hv
    obtain ⟨oC, own, hoC⟩ := LCg.ns_obj hn
    have up : s₁.heap.objs.size < C := Nat.lt_of_lt_of_le (by rw [Heap.size_push]; exact Nat.lt_succ_self _) hC
    have above : L < C := Nat.lt_trans F.ns.lt up
    refine wpAny_mono (turn k t C oC m₂ E' s₂ (List.mem_of_getElem? hj) hoC hx (F.keeps fun _ _ e => old_kept hk e) fun p hp => ?_) (fun r _ ⟨⟨u, e⟩, q⟩ => ⟨⟨k, t, u, rfl, e⟩, q⟩) fun _ _ e => e
    rcases List.mem_cons.mp hp with e | hp
    · subst e
      exact ⟨own, Nat.ne_of_gt above, Heap.get?_none_of_le (Nat.le_trans F.above (Nat.le_of_lt above))⟩
    · exact N.grown (fun _ _ e => old_kept hk e) p hp
/-- the made list in the ledger -/
theorem each_ledger {h' : Heap} {D : Addr} {ys : Array Value} (F : Fr h₀ L s₁.heap m) (N : News h₀ L s₁.heap news) (hD : (s₁.heap.push o).get? D = none) (hl : h'.PlainList D ys)
    (hk : ∀ b p, b ≠ L → s₁.heap.get? b = some p → h'.get? b = some p) : (∃ nn, News h₀ L h' ((D, listOf ys nn) :: news)) ∧ ∀ p ∈ news, p.1 ≠ D := by
  have new : ∀ {a : Addr} {q : Obj}, s₁.heap.get? a = some q → a ≠ D := by
    rintro a q e rfl
    rw [Heap.get?_push_of_some _ e] at hD
    cases hD
  obtain ⟨nn, hnn⟩ := hl
  obtain ⟨oL, _, _, heL, _⟩ := F.ns
  refine ⟨⟨nn, fun p hp => ?_⟩, fun p hp => new (N p hp).1⟩
  rcases List.mem_cons.mp hp with e | hp
  · subst e
    refine ⟨hnn, (new heL).symm, ?_⟩
    cases e : h₀.get? D with
    | none => rfl
    | some q => exact absurd rfl (new (F.keep _ _ e))
  · exact ⟨hk _ _ (N p hp).2.1 (N p hp).1, (N p hp).2⟩
/-- [elt for x in iter], elt an int of an int -/
theorem eval_each {px pos : Pos} {Q : Value → Shared → Prop} (g : Int → Int) (_ : Fr h₀ L s.heap m)
    (names : closureFor scope env = pure cl ∧ scope.kind = .function ∧ (∀ z ∈ scope.names, z.2 ≠ .cell ∧ (z.2 = .local → scope.names.lookup z.1 = some .local)) ∧ scope.names.lookup x = some .local) (plain : ∀ v, foldedSetIterable iter env v = pure v)
    (h : wpAny (model prog w) A (eval iter env) (Each prog w A h₀ L m elt (compEnvC scope cl · env) x g (MadeE h₀ L m Q)) E s) :
    wpAny (model prog w) A (eval (.ListComp elt [⟨.Name x px, iter, [], 0⟩] scope pos) env) Q E s := by
  obtain ⟨n1, n2, n3, n4⟩ := names
  refine wpAny_ListComp_free (fun _ => true) (Turn g) n1 (fun z hz => (n3 z hz).1) n2 (fun z hz => (n3 z hz).2) n4 (wpAny_mono h (fun v s₁ hv => ?_) fun _ _ e => e) plain
  obtain ⟨ks, news, feeds, room, F, N, turn, fin⟩ := hv
  refine feeds _ E fun o fp P St W st hfp hP => ⟨_, fp, _, _, P, St, rfl, W, room, st, fun a ha => ?_, each_turn F N hP turn, ?_⟩
  · exact Nat.lt_of_le_of_lt (hfp a ha) (Heap.size_push s₁.heap o ▸ Nat.lt_succ_self _)
  · intro D h' tk ys vs hD _ hl hn hv pairs hk
    have keep : ∀ b p, s₁.heap.get? b = some p → h'.get? b = some p := fun _ _ e => old_kept hk e
    obtain ⟨⟨nn, N'⟩, off⟩ := each_ledger F N hD hl fun b p _ e => keep b p e
    rw [List.filter_eq_self.mpr fun _ _ => rfl] at pairs
    exact fin D ys.toList nn h' tk (turns_ints hn (fun j u hj => hP j u (hv j u hj)) pairs) (F.keeps keep) N' off
/-- y = [elt for x in iter] -/
theorem assign_each {px py pos spos : Pos} {Q : Flow → Shared → Prop} (g : Int → Int) (_ : Fr h₀ L s.heap m) (hL : env.locals = L)
    (names : closureFor scope env = pure cl ∧ scope.kind = .function ∧ (∀ z ∈ scope.names, z.2 ≠ .cell ∧ (z.2 = .local → scope.names.lookup z.1 = some .local)) ∧ scope.names.lookup x = some .local) (plain : ∀ v, foldedSetIterable iter env v = pure v)
    (swaps : swapsWith (.ListComp elt [⟨.Name x px, iter, [], 0⟩] scope pos) (some (.Name y py)) spos.line env = pure true)
    (bound : env.kindOf y = some .local ∧ (env.scope.kind == .class || (env.scope.kind == .module && env.locals != env.globals)) = false)
    (h : wpAny (model prog w) A (eval iter env) (Each prog w A h₀ L m elt (compEnvC scope cl · env) x g (MadeA h₀ L m y Q)) E s) :
    wpAny (model prog w) A (exec (.Assign [.Name y py] (.ListComp elt [⟨.Name x px, iter, [], 0⟩] scope pos) spos) env) Q E s := by
  obtain ⟨n1, n2, n3, n4⟩ := names
  subst hL
  refine wpAny_Assign_ListComp_free (fun _ => true) (Turn g) swaps n1 (fun z hz => (n3 z hz).1) n2 (fun z hz => (n3 z hz).2) n4 bound.1 bound.2 (wpAny_mono h (fun v s₁ hv => ?_) fun _ _ e => e) plain
  obtain ⟨ks, news, feeds, room, F, N, turn, fin⟩ := hv
  have own : env.locals ∉ [s₁.heap.objs.size] := fun hm => Nat.lt_irrefl _ (List.mem_singleton.mp hm ▸ F.ns.lt)
  refine feeds _ E fun o fp P St W st hfp hP => ⟨_, fp, _, _, P, St, m, rfl, W, room, st, fun a ha => ?_, own, (F.push o).ns, each_turn F N hP turn, ?_⟩
  · exact Nat.lt_of_le_of_lt (hfp a ha) (Heap.size_push s₁.heap o ▸ Nat.lt_succ_self _)
  · intro D h' tk ys vs hD _ hl hn hv pairs ns hk
    have keep : ∀ b p, b ≠ env.locals → s₁.heap.get? b = some p → h'.get? b = some p := fun b p hb e => hk b p hb (fun hm => Nat.lt_irrefl _ (List.mem_singleton.mp hm ▸ Heap.lt_size e)) (Heap.get?_push_of_some _ e)
    obtain ⟨⟨nn, N'⟩, off⟩ := each_ledger F N hD hl keep
    rw [List.filter_eq_self.mpr fun _ _ => rfl] at pairs
    refine fin D ys.toList nn h' tk (turns_ints hn (fun j u hj => hP j u (hv j u hj)) pairs) ⟨ns, fun b p e => keep b p ?_ (F.keep b p e), F.above⟩ N' off
    exact Nat.ne_of_lt (Nat.lt_of_lt_of_le (Heap.lt_size e) F.above)
theorem each_of {own : Addr → Env} {fin : Shared → List Int → List (Addr × Obj) → Prop} {v : Value} (feeds : Feeds prog w A v ks s) (room : ks.length ≤ 16777216) (F : Fr h₀ L s.heap m) (N : News h₀ L s.heap news)
    (turn : ∀ (k : Int) (t : Tok) (C : Addr) (oC : Obj) (m₂ : Str → Option Value) (E' : Value → Shared → Prop) (s₂ : Shared), k ∈ ks → LCg.NsObj oC m₂ → m₂ x = some (.int k t) → Fr h₀ L s₂.heap m → News h₀ L s₂.heap ((C, oC) :: news) →
      wpAny (model prog w) A (eval elt (own C)) (Gives (g k) s₂) E' s₂) (behind : fin s (ks.map g) news) : Each prog w A h₀ L m elt own x g fin v s :=
  ⟨ks, news, feeds, sizeLine_eq ▸ room, F, N, turn, behind⟩
end
end Mine
end
section
open PySem PySem.W PyProof.Rows PySem.Calls
namespace Mine
theorem gen_end {v x : Int} (h : x = ((crcN (rangeKs 0 8).length v.toNat : Nat) : Int)) : x = genI v := h
/-- who calls: its frame, what it has made, and that it stands in a def -/
structure Caller (news : List (Addr × Obj)) (cs : Scope) (outer : List Env) (A₀ : Around) (base h₀ : Heap) (L : Addr) (m : Str → Option Value) (s : Shared) : Prop where
  under : Below A₀ base outer h₀
  frame : Fr h₀ L s.heap m
  made : News h₀ L s.heap news
  inDef : cs.kind = .function
/-- the contract of the def at f, k calls deep at most: R is what a caller may lean on -/
abbrev Claim1 (w : World) (mean : ExcName → Option Value) (mg mb : Str → Option Value) (k : Nat) (f : Addr) (news : List (Addr × Obj)) (vs : List Value)
    (R : Heap → Addr → (Str → Option Value) → Shared → (Value → Shared → Prop) → Prop) : Prop :=
  ∀ {L : Addr} {m : Str → Option Value} {s : Shared} {h₀ base : Heap} {outer : List Env} {A₀ : Around} {cs : Scope} {dp un : Nat} {gd : Option (List Code)} {cn : Str} {a : Addr} {ccd : Value}
    {cl : List (Str × Addr)} {Q E : Value → Shared → Prop}, Caller news cs outer A₀ base h₀ L m s → Frag.In (hd.heap_39 w.params) h₀ → Top hd.view_39 (looseW hd.view_39 []) mean mg mb h₀ →
    dp + k < recursionLimit → un + 8 * k < cLine → R h₀ L m s Q → wpAny (model Challenge.rw_pe0016_01.row.prog w) (ktrTop dp un gd cn cs L a ccd cl outer) (call (.ref f) vs) Q E s

abbrev RInt (news : List (Addr × Obj)) (x : Int) (h₀ : Heap) (L : Addr) (m : Str → Option Value) (s : Shared) (Q : Value → Shared → Prop) : Prop :=
  ∀ (t : Tok) (h' : Heap) (tk' : Nat), Fr h₀ L h' m → News h₀ L h' news → Q (.int x t) { s with heap := h', toks := tk' }

set_option maxHeartbeats 4000000 in
theorem gen_c (w : World) (mean : ExcName → Option Value) (mg mb : Str → Option Value) (news : List (Addr × Obj)) (v : Int) (t : Tok) (hv : 0 ≤ v) :
    Claim1 w mean mg mb 2 21 news [.int v t] (RInt news (genI v)) := by
  w_on
  unfold Claim1
  k_fill
  k_with_none
  (k_with "exec For Name Call cons nil" => kpr_for)
  (k_with "pyIter ref" => k_state_short (fun pre crc => crc = ((crcN pre.length v.toNat : Nat) : Int)) "crc")
  (k_with "state" => first | exact gen_start (by assumption) | exact gen_odd (by assumption) (by assumption) | exact gen_even (by assumption) (by assumption))
  intro L m s h₀ base outer A₀ cs dp un gd cn a ccd cl Q E ⟨B, F, N, hk⟩ X T hdp hu hret
  refine wpAny_call ?_
  k_dflt cell_enter
  k_steps
  all_goals exact cb_retI hret (gen_end (by assumption)) (by k_asm) (by k_asm)
end Mine
end
section
open PySem PySem.W PyProof.Rows PySem.Calls
namespace Mine
abbrev RBytes (news : List (Addr × Obj)) (ks : List Int) (h₀ : Heap) (L : Addr) (m : Str → Option Value) (s : Shared) (Q : Value → Shared → Prop) : Prop :=
  ∀ (b : Array UInt8) (t : Tok) (h' : Heap) (tk' : Nat), KBw.bInts b = ks → Fr h₀ L h' m → News h₀ L h' news → Q (.bytes b t) { s with heap := h', toks := tk' }

local macro_rules | `(tactic| kba_ints) => `(tactic| exact KBw.ints_list _)
local macro_rules | `(tactic| walk_at "binaryOp Add bytes bytes") => `(tactic| (k_here; (refine KBa.add_K (ap_pick _) rfl (ap_room (by assumption)) ?_); intro _ _ kbaApp))
set_option maxHeartbeats 4000000 in
theorem ap_c (w : World) (mean : ExcName → Option Value) (mg mb : Str → Option Value) (news : List (Addr × Obj)) (v : Int) (t : Tok) (h1 : -18446744073709551616 < v) (h2 : v < 18446744073709551616) :
    Claim1 w mean mg mb 2 28 news [.int v t] (RBytes news (apI v)) := by
  w_on
  unfold Claim1
  k_fill
  k_with_none
  (k_with "exec While" => k_while (fun _ num val => ApInv v num val) (fun _ num _ => num.toNat) "num" "val")
  (k_with "exec While Name cons nil" => k_while (fun _ num val => ApInv v num val) (fun _ num _ => num.toNat) "num" "val")
  (k_with "state" => first | exact ap_turn (by assumption) (by assumption) | exact ap_start (by assumption) (by assumption))
  (k_with "measure" => exact ap_less (by assumption) (by assumption))
  intro L m s h₀ base outer A₀ cs dp un gd cn a ccd cl Q E ⟨B, F, N, hk⟩ X T hdp hu hret
  refine wpAny_call ?_
  k_dflt cell_enter
  k_steps
  all_goals exact hret _ _ _ _ (ap_end (by assumption) (by assumption)) (by k_asm) (by k_asm)
end Mine
end
section
open PySem PySem.W PyProof.Rows PySem.Calls
namespace Mine
local macro_rules | `(tactic| walk_at "no such key") => `(tactic| fail)
local macro_rules | `(tactic| walk_at "subscriptTail") => `(tactic| (k_here; (with_reducible show wpAny _ _ (subscriptTail _ _ (Value.ref _) (Value.int _ _)) _ _ _); k_dflt (refine' item_anyK (ns := pwI) ?k1 ?k2 ?k3 ?k4 ?k5 ?_; (case k1 => exact News.isList (by k_asm) (by kst_mem)); (case k2 => assumption); (case k3 => omega); (case k4 => (rw [pwI_length]; omega)); (case k5 => omega); k_whole); intro _))
set_option maxHeartbeats 4000000 in
theorem leap_c (w : World) (mean : ExcName → Option Value) (mg mb : Str → Option Value) (news : List (Addr × Obj)) (v : Int) (t : Tok) (l : Addr) (vs : List Value) (nn : Nat)
    (hl : (l, listOf vs.toArray nn) ∈ news) (hi : IntsAre vs pwI) (hv : 0 ≤ v) :
    Claim1 w mean mg mb 2 49 news [.int v t, .ref l] (RInt news (leapI v)) := by
  w_on
  unfold Claim1
  k_fill
  k_with_none
  (k_with "exec For Name Call cons nil" => kpr_for)
  (k_with "pyIter ref" => k_state_short (fun pre total => total = ((leapN pre.length v.toNat : Nat) : Int)) "total")
  (k_with "state" => first | exact leap_start | exact leap_one (by assumption) (by assumption) (by assumption) (by assumption) (by assumption) | exact leap_none (by assumption) (by assumption) (by assumption) (by assumption) (by assumption))
  intro L m s h₀ base outer A₀ cs dp un gd cn a ccd cl Q E ⟨B, F, N, hk⟩ X T hdp hu hret
  refine wpAny_call ?_
  k_dflt cell_enter
  k_steps
  all_goals exact cb_retI hret (leap_end (by assumption)) (by k_asm) (by k_asm)
end Mine
end
section
open PySem PySem.W PyProof.Rows PySem.Calls
namespace Mine
section
variable {w : World} {mean : ExcName → Option Value} {mg mb : Str → Option Value} {news : List (Addr × Obj)} {v : Int} {t : Tok} {l : Addr} {vs : List Value} {nn : Nat}
  {dp un : Nat} {gd : Option (List Code)} {cn : Str} {cs : Scope} {a : Addr} {ccd : Value} {cl : List (Str × Addr)} {outer : List Env} {A₀ : Around} {base h₀ : Heap} {L : Addr} {m : Str → Option Value} {s : Shared} {Q E : Value → Shared → Prop}
theorem gen_r (B : Below A₀ base outer h₀) (F : Fr h₀ L s.heap m) (X : Frag.In (hd.heap_39 w.params) h₀) (N : News h₀ L s.heap news) (T : Top hd.view_39 (looseW hd.view_39 []) mean mg mb h₀) (hk : cs.kind = .function)
    (hd : dp + 2 < recursionLimit) (hu : un + 8 * 2 < cLine) (hv : 0 ≤ v) (hret : RInt news (genI v) h₀ L m s Q) :
    wpAny (model Challenge.rw_pe0016_01.row.prog w) (ktrTop dp un gd cn cs L a ccd cl outer) (call (.ref 21) [.int v t]) Q E s :=
  gen_c w mean mg mb news v t hv ⟨B, F, N, hk⟩ X T hd hu hret
theorem ap_r (B : Below A₀ base outer h₀) (F : Fr h₀ L s.heap m) (X : Frag.In (hd.heap_39 w.params) h₀) (N : News h₀ L s.heap news) (T : Top hd.view_39 (looseW hd.view_39 []) mean mg mb h₀) (hk : cs.kind = .function)
    (hd : dp + 2 < recursionLimit) (hu : un + 8 * 2 < cLine) (h1 : -18446744073709551616 < v) (h2 : v < 18446744073709551616) (hret : RBytes news (apI v) h₀ L m s Q) :
    wpAny (model Challenge.rw_pe0016_01.row.prog w) (ktrTop dp un gd cn cs L a ccd cl outer) (call (.ref 28) [.int v t]) Q E s :=
  ap_c w mean mg mb news v t h1 h2 ⟨B, F, N, hk⟩ X T hd hu hret
theorem leap_r (B : Below A₀ base outer h₀) (F : Fr h₀ L s.heap m) (X : Frag.In (hd.heap_39 w.params) h₀) (N : News h₀ L s.heap news) (T : Top hd.view_39 (looseW hd.view_39 []) mean mg mb h₀) (hk : cs.kind = .function)
    (hd : dp + 2 < recursionLimit) (hu : un + 8 * 2 < cLine) (hl : (l, listOf vs.toArray nn) ∈ news) (hi : IntsAre vs pwI) (hv : 0 ≤ v) (hret : RInt news (leapI v) h₀ L m s Q) :
    wpAny (model Challenge.rw_pe0016_01.row.prog w) (ktrTop dp un gd cn cs L a ccd cl outer) (call (.ref 49) [.int v t, .ref l]) Q E s :=
  leap_c w mean mg mb news v t l vs nn hl hi hv ⟨B, F, N, hk⟩ X T hd hu hret
end
local macro_rules | `(tactic| walk_at "call ref") => `(tactic| (k_here; k_dflt (refine' gen_r ?k1 ?k2 ?k3 ?k4 ?k5 ?k6 ?k7 ?k8 ?k9 ?_; (case k1 => k_asm); (case k2 => k_asm); (case k3 => k_asm); (case k4 => k_asm); (case k5 => k_asm); (case k6 => first | exact rfl | assumption); (case k7 => ktr_room); (case k8 => ktr_units); (case k9 => first | exact GenInv.lo (by assumption)); intro t9 h9 tk9 F9 N9; (try dsimp only); (try k_fold))))
local macro_rules | `(tactic| walk_at "call ref") => `(tactic| (k_here; k_dflt (refine' ap_r ?k1 ?k2 ?k3 ?k4 ?k5 ?k6 ?k7 ?k8 ?k9 ?k10 ?_; (case k1 => k_asm); (case k2 => k_asm); (case k3 => k_asm); (case k4 => k_asm); (case k5 => k_asm); (case k6 => first | exact rfl | assumption); (case k7 => ktr_room); (case k8 => ktr_units); (case k9 => first | assumption | omega); (case k10 => first | assumption | omega); intro b9 t9 h9 tk9 kbaB F9 N9; (try dsimp only); (try k_fold))))
local macro_rules | `(tactic| walk_at "call ref") => `(tactic| (k_here; k_dflt (refine' leap_r ?k1 ?k2 ?k3 ?k4 ?k5 ?k6 ?k7 ?k8 ?k9 ?k10 ?k11 ?_; (case k1 => k_asm); (case k2 => k_asm); (case k3 => k_asm); (case k4 => k_asm); (case k5 => k_asm); (case k6 => first | exact rfl | assumption); (case k7 => ktr_room); (case k8 => ktr_units); (case k9 => kst_mem); (case k10 => assumption); (case k11 => first | exact WalkInv.lo (by assumption)); intro t9 h9 tk9 F9 N9; (try dsimp only); (try k_fold))))

set_option maxHeartbeats 4000000 in
theorem walk_c (w : World) (mean : ExcName → Option Value) (mg mb : Str → Option Value) (news : List (Addr × Obj)) (v : Int) (t : Tok) (l : Addr) (vs : List Value) (nn : Nat)
    (hl : (l, listOf vs.toArray nn) ∈ news) (hi : IntsAre vs pwI) (h1 : -18446744073709551616 < v) (h2 : v < 18446744073709551616) :
    Claim1 w mean mg mb 4 56 news [.int v t, .ref l] (RInt news (walkL (apI v))) := by
  w_on
  unfold Claim1
  k_fill
  k_with_none
  (k_with "exec For Name Call cons nil" => kpr_for)
  (k_with "pyIter bytes" => k_state (fun pre register => WalkInv pre register) "register")
  (k_with "pyIter ref" => k_state_given ["register!"] (fun r pre register => GenInv r pre register) "register")
  (k_with "state" => first | exact walk_start | exact gi_start | exact gi_turn (by assumption) | exact walk_turn (by assumption) (by assumption))
  intro L m s h₀ base outer A₀ cs dp un gd cn a ccd cl Q E ⟨B, F, N, hk⟩ X T hdp hu hret
  refine wpAny_call ?_
  k_dflt cell_enter
  k_steps
  all_goals exact cb_retI hret (WalkInv.eq (by assumption)) (by k_asm) (by k_asm)
end Mine
end
section
open PySem PySem.W PyProof.Rows PySem.Calls
namespace Mine
abbrev RList (news : List (Addr × Obj)) (ns : List Int) (h₀ : Heap) (L : Addr) (m : Str → Option Value) (s : Shared) (Q : Value → Shared → Prop) : Prop :=
  ∀ (l : Addr) (vs : List Value) (nn : Nat) (h' : Heap) (tk' : Nat), IntsAre vs ns → Fr h₀ L h' m → News h₀ L h' ((l, listOf vs.toArray nn) :: news) → (∀ p ∈ news, p.1 < l) → Q (.ref l) { s with heap := h', toks := tk' }

local macro_rules | `(tactic| kst_facts1) => `(tactic| exact IntsAre.cons _ _ IntsAre.nil)
local macro_rules | `(tactic| walk_at "call ref") => `(tactic| (k_here; k_dflt (refine' gen_r ?k1 ?k2 ?k3 ?k4 ?k5 ?k6 ?k7 ?k8 ?k9 ?_; (case k1 => k_asm); (case k2 => k_asm); (case k3 => k_asm); (case k4 => k_asm); (case k5 => k_asm); (case k6 => first | exact rfl | assumption); (case k7 => ktr_room); (case k8 => ktr_units); (case k9 => first | exact genI_nonneg _ | exact pow_lo (by assumption)); intro t9 h9 tk9 F9 N9; (try dsimp only); (try k_fold))))
theorem pow_ret {news : List (Addr × Obj)} {h₀ h' : Heap} {L l : Addr} {m : Str → Option Value} {s : Shared} {Q : Value → Shared → Prop} {vs : List Value} {ps : List Int} {nn tk' : Nat} (hret : RList news pwI h₀ L m s Q)
    (h : PowInv (rangeKs 0 (31 - 0 : Int).toNat) ps) (hi : IntsAre vs ps) (F : Fr h₀ L h' m) (N : News h₀ L h' ((l, listOf vs.toArray nn) :: news)) (hl : ∀ p ∈ news, p.1 < l) : Q (.ref l) { s with heap := h', toks := tk' } := by
  rw [pow_end h] at hi
  exact hret l vs nn h' tk' hi F N hl
set_option maxHeartbeats 4000000 in
theorem pow_c (w : World) (mean : ExcName → Option Value) (mg mb : Str → Option Value) (news : List (Addr × Obj)) :
    Claim1 w mean mg mb 4 42 news [] (RList news pwI) := by
  w_on
  unfold Claim1
  k_fill
  k_with_none
  (k_with "exec For Name Call cons nil" => kpr_for)
  (k_with "pyIter ref" => k_state (fun pre powers => powers.length = pre.length + 1 ∧ PowInv pre powers) "powers")
  (k_with "state" => first | exact pow_start | exact pow_turn (by assumption) (by assumption))
  intro L m s h₀ base outer A₀ cs dp un gd cn a ccd cl Q E ⟨B, F, N, hk⟩ X T hdp hu hret
  refine wpAny_call ?_
  k_dflt cell_enter
  k_steps
  all_goals exact pow_ret hret (by assumption) (by assumption) (by k_asm) (by k_asm) (by assumption)
end Mine
end
section
open PySem PySem.W PyProof.Rows PySem.Calls
namespace Mine
local macro_rules | `(tactic| walk_at "subscriptTail") => `(tactic| (k_here; (with_reducible show wpAny _ _ (subscriptTail _ (Expr.Slice none none (some _) _) (Value.bytes _ _) (Value.ref _)) _ _ _); (with_reducible rename Fr _ _ _ _ => F9); (with_reducible rename News _ _ _ _ => N9); (refine tail_of_ItemOn (flip_on (s := ⟨_, _, _, _, _⟩) F9 N9 (by kba_ints) (by kba_size) ?_) (by with_unfolding_all rfl) (by intro _; with_unfolding_all rfl)); intro b9 h9 u9 k9 kbaB F9 N9))
local macro_rules | `(tactic| walk_at "exec Assign cons ListComp") => `(tactic| (k_here; k_dflt (refine assign_each (fun k9 => k9 - 65) (by k_asm) (by rfl) ⟨by rfl, by rfl, by decide, by rfl⟩ (by intro _; rfl) (by with_unfolding_all rfl) ⟨by rfl, by rfl⟩ ?_)))
local macro_rules | `(tactic| walk_at "Each") => `(tactic| (k_here; k_dflt (refine each_of (feeds_bytes (by rfl) (by kba_ints)) (by simp only [List.length_reverse]; omega) (by k_asm) (by k_asm) ?_ ?_); rotate_left; (intro D9 vs9 nn9 h9 tk9 hI9 F9 N9 o9; replace hI9 := figs_fold hI9; (try dsimp only)); rotate_left; (intro k9 t9 C9 oC9 m9 E9 s9 hm9 hC9 hx9 F9 N9)))
local macro_rules | `(tactic| walk_at "call builtin:len") => `(tactic| (k_here; (with_reducible show wpAny _ _ (call (Value.builtin "len") [Value.ref _]) _ _ _); k_dflt (refine' kst_len ?k1 ?k2 ?k3 ?k4 ?_; (case k1 => k_asm); (case k2 => k_mem); (case k3 => exact figs_len (by assumption)); (case k4 => omega); k_whole)))
local macro_rules | `(tactic| walk_at "call builtin:list.append") => `(tactic| (k_here; k_dflt (refine' append_K ?k1 ?k2 ?k3 ?_ ?z; (case k1 => k_asm); (case k2 => k_asm); (case k3 => k_upd); (case z => size_fits); k_whole); intro h' F' N'; (try k_sweep)))
local macro_rules | `(tactic| walk_at "subscriptTail Name Name ref int") => `(tactic| (k_dflt (refine' item_anyK (ns := figs _) ?k1 ?k2 ?k3 ?k4 ?k5 ?_; (case k2 => assumption); (case k1 => exact News.isList (by k_asm) (by kcf_m)); (case k3 => omega); (case k4 => (rw [figs_length]; omega)); (case k5 => omega); k_whole); intro _))
local macro_rules | `(tactic| walk_at "binaryOp Mult int int") => `(tactic| first | refine mul_int ?_ (wt_okP (by decide) (by decide)) | refine mul_int ?_ (wt_okN (by decide) (by decide)))
local macro_rules | `(tactic| walk_at "Gives") => `(tactic| exact ⟨⟨_, rfl⟩, _, _, rfl, fun _ _ e9 => e9⟩)
theorem alt_val {ks : List Int} {w x : Int} (h : AltInv ks w (rangeKs 0 ((ks.length : Int) - 0).toNat) x) : x = altS (figs ks) w ks.length := by
  rw [h.eq, rangeKs_length]
  congr 1
theorem rests_ret {ks : List Int} {news : List (Addr × Obj)} {h₀ h' : Heap} {L l : Addr} {m : Str → Option Value} {s : Shared} {Q : Value → Shared → Prop} {x1 x2 x4 : Int} {t0 t1 t2 t3 : Tok} {n tk' : Nat} (hret : RList [] (restsL ks) h₀ L m s Q)
    (a1 : AltInv ks 1 (rangeKs 0 ((ks.length : Int) - 0).toNat) x1) (a2 : AltInv ks 2 (rangeKs 0 ((ks.length : Int) - 0).toNat) x2) (a4 : AltInv ks 4 (rangeKs 0 ((ks.length : Int) - 0).toNat) x4) (F : Fr h₀ L h' m) (N : News h₀ L h' news)
    (hm : (l, listOf (((#[Value.int ((figs ks).sum.fmod 15) t0].push (Value.int (x1.fmod (16 ^ Int.toNat 1 + 1)) t1)).push (Value.int (x2.fmod (16 ^ Int.toNat 2 + 1)) t2)).push (Value.int (x4.fmod (16 ^ Int.toNat 4 + 1)) t3)) n) ∈ news) :
    Q (.ref l) { s with heap := h', toks := tk' } := by
  rw [alt_val a1, alt_val a2, alt_val a4] at hm
  refine hret l [.int ((figs ks).sum.fmod 15) t0, .int ((altS (figs ks) 1 ks.length).fmod 17) t1, .int ((altS (figs ks) 2 ks.length).fmod 257) t2, .int ((altS (figs ks) 4 ks.length).fmod 65537) t3] n h' tk' ?_ F ?_ ?_
  · exact IntsAre.cons _ _ (.cons _ _ (.cons _ _ (.cons _ _ .nil)))
  · intro p hp
    rw [List.mem_singleton.mp hp]
    exact N _ hm
  · intro p hp
    exact absurd hp List.not_mem_nil
set_option maxHeartbeats 4000000 in
theorem rests_c (w : World) (mean : ExcName → Option Value) (mg mb : Str → Option Value) (b : Array UInt8) (t : Tok) (ks : List Int) (hk : KBw.bInts b = ks) (hn : ks.length ≤ 16) :
    Claim1 w mean mg mb 2 61 [] [.bytes b t] (RList [] (restsL ks)) := by
  w_on
  unfold Claim1
  k_fill
  k_with_none
  (k_with "exec For Name Call cons nil" => kpr_for)
  (k_with "pyIter ref" => k_state_given ["width"] (fun width pre total => AltInv ks width pre total) "total")
  (k_with "state" => first | exact alt_start | exact alt_neg (by assumption) (by assumption) (by assumption) | exact alt_pos (by assumption) (by assumption) (by assumption))
  intro L m s h₀ base outer A₀ cs dp un gd cn a ccd cl Q E ⟨B, F, N, hk⟩ X T hdp hu hret
  refine wpAny_call ?_
  k_dflt cell_enter
  k_steps
  all_goals exact rests_ret hret (by assumption) (by assumption) (by assumption) (by k_asm) (by k_asm) (by k_mem)
end Mine
end
section
open PySem PySem.W PyProof.Rows PySem.Calls
namespace Mine
abbrev RBnd (news : List (Addr × Obj)) (bound : Int) (h₀ : Heap) (L : Addr) (m : Str → Option Value) (s : Shared) (Q : Value → Shared → Prop) : Prop :=
  ∀ (r : Int) (t : Tok) (h' : Heap) (tk' : Nat), 0 ≤ r → r < bound → Fr h₀ L h' m → News h₀ L h' news → Q (.int r t) { s with heap := h', toks := tk' }
structure DrInv (bound total : Int) : Prop where
  lo : 0 ≤ total
  hi : total < bound
theorem dr_turn {bound x : Int} (h : 0 < bound) : DrInv bound (x.fmod bound) := ⟨Int.fmod_nonneg_of_pos _ h, Int.fmod_lt_of_pos _ h⟩
theorem base_ok {a base : Int} (h1 : 0 ≤ base) (h2 : base ≤ 100) : IntMulOk a base := IntMulOk.of_right (intBits_le_64 (by omega) (by omega))
local macro_rules | `(tactic| walk_at "binaryOp Mult int int") => `(tactic| refine mul_int ?_ (base_ok (by assumption) (by assumption)))
set_option maxHeartbeats 4000000 in
theorem drawn_c (w : World) (mean : ExcName → Option Value) (mg mb : Str → Option Value) (l : Addr) (vs : List Value) (nn : Nat) (ns : List Int) (start base bound : Int) (t1 t2 t3 : Tok)
    (hi : IntsAre vs ns) (hs0 : 0 ≤ start) (hs1 : start < bound) (hb0 : 0 ≤ base) (hb1 : base ≤ 100) (hc0 : 0 < bound) :
    Claim1 w mean mg mb 2 35 [(l, listOf vs.toArray nn)] [.ref l, .int start t1, .int base t2, .int bound t3] (RBnd [(l, listOf vs.toArray nn)] bound) := by
  w_on
  unfold Claim1
  k_fill
  k_with_none
  (k_with "exec For Name Name cons nil" => ((rename Fr _ _ _ _ => lF'); (with_unfolding_all refine' For_invVF lF' ?k1 ?k2 ?_; (case k1 => exact rfl); (case k2 => exact rfl); k_whole)))
  (k_with "pyIter ref" => k_state (fun pre total => DrInv bound total) "total")
  (k_with "state" => first | exact dr_turn (by assumption) | exact ⟨by assumption, by assumption⟩)
  intro L m s h₀ base' outer A₀ cs dp un gd cn a ccd cl Q E ⟨B, F, N, hk⟩ X T hdp hu hret
  refine wpAny_call ?_
  k_dflt cell_enter
  k_steps
  all_goals exact hret _ _ _ _ (DrInv.lo (by assumption)) (DrInv.hi (by assumption)) (by k_asm) (by k_asm)
end Mine
end
section
open PySem PySem.W PyProof.Rows PySem.Calls
namespace Mine
section
variable {w : World} {mean : ExcName → Option Value} {mg mb : Str → Option Value} {news : List (Addr × Obj)} {v start bs bound : Int} {t t1 t2 t3 : Tok} {l : Addr} {vs : List Value} {nn : Nat} {b : Array UInt8} {ks ns : List Int}
  {dp un : Nat} {gd : Option (List Code)} {cn : Str} {cs : Scope} {a : Addr} {ccd : Value} {cl : List (Str × Addr)} {outer : List Env} {A₀ : Around} {base h₀ : Heap} {L : Addr} {m : Str → Option Value} {s : Shared} {Q E : Value → Shared → Prop}
theorem walk_r (B : Below A₀ base outer h₀) (F : Fr h₀ L s.heap m) (X : Frag.In (hd.heap_39 w.params) h₀) (N : News h₀ L s.heap news) (T : Top hd.view_39 (looseW hd.view_39 []) mean mg mb h₀) (hk : cs.kind = .function)
    (hd : dp + 4 < recursionLimit) (hu : un + 8 * 4 < cLine) (hl : (l, listOf vs.toArray nn) ∈ news) (hi : IntsAre vs pwI) (h1 : -18446744073709551616 < v) (h2 : v < 18446744073709551616) (hret : RInt news (walkL (apI v)) h₀ L m s Q) :
    wpAny (model Challenge.rw_pe0016_01.row.prog w) (ktrTop dp un gd cn cs L a ccd cl outer) (call (.ref 56) [.int v t, .ref l]) Q E s :=
  walk_c w mean mg mb news v t l vs nn hl hi h1 h2 ⟨B, F, N, hk⟩ X T hd hu hret
theorem pow_r (B : Below A₀ base outer h₀) (F : Fr h₀ L s.heap m) (X : Frag.In (hd.heap_39 w.params) h₀) (N : News h₀ L s.heap news) (T : Top hd.view_39 (looseW hd.view_39 []) mean mg mb h₀) (hk : cs.kind = .function)
    (hd : dp + 4 < recursionLimit) (hu : un + 8 * 4 < cLine) (hret : RList news pwI h₀ L m s Q) :
    wpAny (model Challenge.rw_pe0016_01.row.prog w) (ktrTop dp un gd cn cs L a ccd cl outer) (call (.ref 42) []) Q E s :=
  pow_c w mean mg mb news ⟨B, F, N, hk⟩ X T hd hu hret
theorem rests_r (B : Below A₀ base outer h₀) (F : Fr h₀ L s.heap m) (X : Frag.In (hd.heap_39 w.params) h₀) (N : News h₀ L s.heap []) (T : Top hd.view_39 (looseW hd.view_39 []) mean mg mb h₀) (hk : cs.kind = .function)
    (hd : dp + 2 < recursionLimit) (hu : un + 8 * 2 < cLine) (hk9 : KBw.bInts b = ks) (hn : ks.length ≤ 16) (hret : RList [] (restsL ks) h₀ L m s Q) :
    wpAny (model Challenge.rw_pe0016_01.row.prog w) (ktrTop dp un gd cn cs L a ccd cl outer) (call (.ref 61) [.bytes b t]) Q E s :=
  rests_c w mean mg mb b t ks hk9 hn ⟨B, F, N, hk⟩ X T hd hu hret
theorem drawn_r (B : Below A₀ base outer h₀) (F : Fr h₀ L s.heap m) (X : Frag.In (hd.heap_39 w.params) h₀) (N : News h₀ L s.heap [(l, listOf vs.toArray nn)]) (T : Top hd.view_39 (looseW hd.view_39 []) mean mg mb h₀) (hk : cs.kind = .function)
    (hd : dp + 2 < recursionLimit) (hu : un + 8 * 2 < cLine) (hi : IntsAre vs ns) (hs0 : 0 ≤ start) (hs1 : start < bound) (hb0 : 0 ≤ bs) (hb1 : bs ≤ 100) (hc0 : 0 < bound) (hret : RBnd [(l, listOf vs.toArray nn)] bound h₀ L m s Q) :
    wpAny (model Challenge.rw_pe0016_01.row.prog w) (ktrTop dp un gd cn cs L a ccd cl outer) (call (.ref 35) [.ref l, .int start t1, .int bs t2, .int bound t3]) Q E s :=
  drawn_c w mean mg mb l vs nn ns start bs bound t1 t2 t3 hi hs0 hs1 hb0 hb1 hc0 ⟨B, F, N, hk⟩ X T hd hu hret
end
end Mine
end
section
open PySem PySem.W PyProof.Rows PySem.Calls
namespace Mine
section
variable {prog : Program} {w : World} {A : Around} {E : Value → Shared → Prop} {s : Shared} {Q : Value → Shared → Prop}
theorem share_item {value slice : PySem.Expr} {l : Addr} {t1 t2 t3 t4 t5 t6 t7 t8 : Tok} {x : Int} {u : Tok}
    (ht : IsTup s.heap l [Value.int 65537 t1, .int 257 t2, .int 17 t3, .int 15 t4, .int 5 t5, .int 3 t6, .int 1 t7, .int 4294967295 t8].toArray)
    (h : ∀ sh t, ShareInv sh → Q (.int sh t) s)
    (hs : subscripted slice false (.ref l) (.int (x.fmod 8) u) = operate [.ref l, .int (x.fmod 8) u] (getItem (.ref l) (.int (x.fmod 8) u)) := by with_unfolding_all rfl) :
    wpAny (model prog w) A (subscriptTail value slice (.ref l) (.int (x.fmod 8) u)) Q E s := by
  have h0 : 0 ≤ x.fmod 8 := Int.fmod_nonneg_of_pos _ (by decide)
  have h1 : x.fmod 8 < 8 := Int.fmod_lt_of_pos _ (by decide)
  refine item_anyT (ns := shares) ht ?_ h0 h1 (by omega) (fun t => h _ t ⟨?_⟩) hs
  · exact IntsAre.cons _ _ (.cons _ _ (.cons _ _ (.cons _ _ (.cons _ _ (.cons _ _ (.cons _ _ (.cons _ _ .nil)))))))
  · have hl : (x.fmod 8).toNat < shares.length := by show _ < 8; omega
    have e : shares.getD (x.fmod 8).toNat 0 = shares[(x.fmod 8).toNat] := by simp [List.getD, hl]
    rw [e]
    exact List.getElem_mem hl
theorem share_div {sh : Int} {t u : Tok} (hs : ShareInv sh) (h : ∀ t', Q (.int (Int.fdiv 4294967295 sh) t') { s with toks := s.toks + 1 }) :
    wpAny (model prog w) A (binaryOp .FloorDiv (.int 4294967295 t) (.int sh u)) Q E s :=
  floordiv_int hs.ne (h _) (Or.inl ((show ∀ x ∈ shares, Builtin.divisionGoesByPylong 4294967295 x = false by decide +kernel) _ hs.mem))
theorem gap_mul {r sh : Int} {t u : Tok} (hs : ShareInv sh) (h : ∀ gap t', GapInv gap → Q (.int gap t') { s with toks := s.toks + 1 }) :
    wpAny (model prog w) A (binaryOp .Mult (.int (r.fmod 16) t) (.int (Int.fdiv 4294967295 sh) u)) Q E s := by
  have h0 : 0 ≤ r.fmod 16 := Int.fmod_nonneg_of_pos _ (by decide)
  have h1 : r.fmod 16 < 16 := Int.fmod_lt_of_pos _ (by decide)
  exact mul_int (h _ _ (GapInv.of hs)) (IntMulOk.of_left (intBits_le_64 (by omega) (by omega)))
theorem eq_bool_true {p q : Bool} (e : (p == q) = true) (h : Q (.bool true) s) : wpAny (model prog w) A (compareOp .Eq (.bool p) (.bool q)) Q E s := eq_bool (by rw [e]; exact h)
theorem ne_int_same {x y : Int} {t u : Tok} (e : x = y) (h : Q (.bool false) s) : wpAny (model prog w) A (compareOp .NotEq (.int x t) (.int y u)) Q E s := by
  subst e
  exact ne_int (by simpa using h)
theorem ne_same {a b : Addr} {vs us : List Value} {ns : List Int} (hl : s.heap.IsList a vs.toArray) (hi : IntsAre vs ns) (hl' : s.heap.IsList b us.toArray) (hi' : IntsAre us ns) (hu : A.units + 64 < cLine)
    (h : Q (.bool false) s) : wpAny (model prog w) A (compareOp .NotEq (.ref a) (.ref b)) Q E s := ne_intsK hl hi hl' hi' hu (by simpa using h)
end
section
variable {w : World} {mean : ExcName → Option Value} {mg mb : Str → Option Value} {v : Int} {t : Tok} {b : Array UInt8}
  {dp un : Nat} {gd : Option (List Code)} {cn : Str} {cs : Scope} {a : Addr} {ccd : Value} {cl : List (Str × Addr)} {outer : List Env} {A₀ : Around} {base h₀ : Heap} {L : Addr} {m : Str → Option Value} {s : Shared} {Q E : Value → Shared → Prop}
theorem told_r {gap : Int} (B : Below A₀ base outer h₀) (F : Fr h₀ L s.heap m) (X : Frag.In (hd.heap_39 w.params) h₀) (N : News h₀ L s.heap []) (T : Top hd.view_39 (looseW hd.view_39 []) mean mg mb h₀) (hk : cs.kind = .function)
    (hd : dp + 2 < recursionLimit) (hu : un + 8 * 2 < cLine) (hg : GapInv gap) (hk9 : KBw.bInts b = apI (-gap)) (hret : RList [] [gap.fmod 15, gap.fmod 17, gap.fmod 257, gap.fmod 65537] h₀ L m s Q) :
    wpAny (model Challenge.rw_pe0016_01.row.prog w) (ktrTop dp un gd cn cs L a ccd cl outer) (call (.ref 61) [.bytes b t]) Q E s := by
  refine rests_r B F X N T hk hd hu hk9 (digs_le _ _) ?_
  rw [gap_rests hg]
  exact hret
end
end Mine
end
section
open PySem PySem.W PyProof.Rows PySem.Calls Mine
local macro_rules | `(tactic| walk_at "call ref") => `(tactic| (k_here; k_dflt (refine' gen_r ?k1 ?k2 ?k3 ?k4 ?k5 ?k6 ?k7 ?k8 ?k9 ?_; (case k1 => k_asm); (case k2 => k_asm); (case k3 => k_asm); (case k4 => k_asm); (case k5 => k_asm); (case k6 => first | exact rfl | assumption); (case k7 => ktr_room); (case k8 => ktr_units); (case k9 => first | exact genI_nonneg _ | exact walkL_nonneg _); intro t9 h9 tk9 F9 N9; (try dsimp only); (try k_fold))))
local macro_rules | `(tactic| walk_at "call ref") => `(tactic| (k_here; k_dflt (refine' ap_r ?k1 ?k2 ?k3 ?k4 ?k5 ?k6 ?k7 ?k8 ?k9 ?k10 ?_; (case k1 => k_asm); (case k2 => k_asm); (case k3 => k_asm); (case k4 => k_asm); (case k5 => k_asm); (case k6 => first | exact rfl | assumption); (case k7 => ktr_room); (case k8 => ktr_units); (case k9 => first | assumption | omega | ((have hG9 := GapInv.bnd (by assumption)); omega)); (case k10 => first | assumption | omega | ((have hG9 := GapInv.bnd (by assumption)); omega)); intro b9 t9 h9 tk9 kbaB F9 N9; (try dsimp only); (try k_fold))))
local macro_rules | `(tactic| walk_at "call ref") => `(tactic| (k_here; k_dflt (refine' walk_r ?k1 ?k2 ?k3 ?k4 ?k5 ?k6 ?k7 ?k8 ?k9 ?k10 ?k11 ?k12 ?_; (case k1 => k_asm); (case k2 => k_asm); (case k3 => k_asm); (case k4 => k_asm); (case k5 => k_asm); (case k6 => first | exact rfl | assumption); (case k7 => ktr_room); (case k8 => ktr_units); (case k9 => kcf_m); (case k10 => assumption); (case k11 => first | assumption | omega | ((have hG9 := GapInv.bnd (by assumption)); omega)); (case k12 => first | assumption | omega | ((have hG9 := GapInv.bnd (by assumption)); omega)); intro t9 h9 tk9 F9 N9; (try dsimp only); (try k_fold))))
local macro_rules | `(tactic| walk_at "call ref") => `(tactic| (k_here; k_dflt (refine' pow_r ?k1 ?k2 ?k3 ?k4 ?k5 ?k6 ?k7 ?k8 ?_; (case k1 => k_asm); (case k2 => k_asm); (case k3 => k_asm); (case k4 => k_asm); (case k5 => k_asm); (case k6 => first | exact rfl | assumption); (case k7 => ktr_room); (case k8 => ktr_units); intro l9 vs9 nn9 h9 tk9 hI9 F9 N9 l1; (try dsimp only); (try k_fold))))
local macro_rules | `(tactic| walk_at "call ref") => `(tactic| (k_here; k_dflt (refine' told_r ?k1 ?k2 ?k3 ?k4 ?k5 ?k6 ?k7 ?k8 ?k9 ?k10 ?_; (case k1 => k_asm); (case k2 => k_asm); (case k3 => k_asm); (case k4 => exact cb_drop (by k_asm) (fun p9 hp9 => absurd hp9 List.not_mem_nil)); (case k5 => k_asm); (case k6 => first | exact rfl | assumption); (case k7 => ktr_room); (case k8 => ktr_units); (case k9 => assumption); (case k10 => assumption); intro l9 vs9 nn9 h9 tk9 hI9 F9 N9 l1; (try dsimp only); (try k_fold))))
local macro_rules | `(tactic| walk_at "call ref") => `(tactic| (k_here; k_dflt (refine' drawn_r ?k1 ?k2 ?k3 ?k4 ?k5 ?k6 ?k7 ?k8 ?k9 ?k10 ?k11 ?k12 ?k13 ?k14 ?_; (case k1 => k_asm); (case k2 => k_asm); (case k3 => k_asm); (case k4 => k_asm); (case k5 => k_asm); (case k6 => first | exact rfl | assumption); (case k7 => ktr_room); (case k8 => ktr_units); (case k9 => assumption); (case k10 => decide); (case k11 => decide); (case k12 => decide); (case k13 => decide); (case k14 => decide); intro r9 t9 h9 tk9 hr9 hs9 F9 N9; (try dsimp only); (try k_fold))))
local macro_rules | `(tactic| walk_at "subscriptTail") => `(tactic| (k_here; k_dflt (refine' share_item ?k1 ?_; (case k1 => exact News.isTup (by k_asm) (by kcf_m)); k_whole); intro sh9 t9 hsh9))
local macro_rules | `(tactic| walk_at "subscriptTail") => `(tactic| (k_here; k_dflt (refine' item_anyK (ns := pwI) ?k1 ?k2 ?k3 ?k4 ?k5 ?_; (case k2 => assumption); (case k1 => exact News.isList (by k_asm) (by kcf_m)); (case k3 => decide); (case k4 => (rw [pwI_length]; decide)); (case k5 => decide); k_whole); intro _))
local macro_rules | `(tactic| walk_at "binaryOp FloorDiv int int") => `(tactic| (k_here; (refine share_div (by assumption) ?_); intro t9))
local macro_rules | `(tactic| walk_at "binaryOp Mult int int") => `(tactic| (k_here; (refine gap_mul (by assumption) ?_); intro gap9 t9 hgap9))
local macro_rules | `(tactic| walk_at "compareOp NotEq ref ref") => `(tactic| (k_here; k_dflt (refine' ne_same ?k1 ?k2 ?k3 ?k4 ?k5 ?_; (case k1 => exact News.isList (by k_asm) (by kcf_m)); (case k2 => assumption); (case k3 => exact News.isList (by k_asm) (by kcf_m)); (case k4 => exact IntsAre.cons _ _ (.cons _ _ (.cons _ _ (.cons _ _ .nil)))); (case k5 => units_room); k_whole)))
local macro_rules | `(tactic| walk_at "compareOp Eq ref ref") => `(tactic| (k_here; k_dflt (refine' eq_intsK ?k1 ?k2 ?k3 ?k4 ?k5 ?_; (case k1 => exact News.isList (by k_asm) (by kcf_m)); (case k2 => assumption); (case k3 => exact News.isList (by k_asm) (by kcf_m)); (case k4 => exact IntsAre.cons _ _ (.cons _ _ (.cons _ _ (.cons _ _ .nil)))); (case k5 => units_room); k_whole)))
local macro_rules | `(tactic| walk_at "compareOp NotEq int int") => `(tactic| (k_here; first | (refine ne_int_same pw_two ?_) | (refine ne_int_same (walk_succ (by first | omega | ((have hG9 := GapInv.bnd (by assumption)); omega)) (by first | omega | ((have hG9 := GapInv.bnd (by assumption)); omega))) ?_)))
local macro_rules | `(tactic| walk_at "eval ListComp") => `(tactic| (k_here; (with_reducible rename Fr _ _ _ _ => kF9); (refine' eval_each (fun k9 : Int => (2 : Int) ^ (31 - k9).toNat) kF9 ⟨?a1, ?a2, ?a3, ?a4⟩ ?a5 ?a6; (case a1 => k_dflt (exact rfl)); (case a2 => k_dflt (exact rfl)); (case a3 => decide); (case a4 => k_dflt (exact rfl)); (case a5 => (intro _; k_dflt (exact rfl))); k_whole)))
local macro_rules | `(tactic| walk_at "Each") => `(tactic| (k_here; k_dflt (refine each_of (ks := tapL) (feeds_tuple (by rfl) (by k_asm) (by kcf_m) (by exact (IntsAre.cons _ _ (IntsAre.cons _ _ (IntsAre.cons _ _ (IntsAre.cons _ _ (IntsAre.cons _ _ (IntsAre.cons _ _ (IntsAre.cons _ _ (IntsAre.cons _ _ (IntsAre.cons _ _ (IntsAre.cons _ _ (IntsAre.cons _ _ (IntsAre.cons _ _ (IntsAre.cons _ _ (IntsAre.cons _ _ IntsAre.nil)))))))))))))))) (by decide) (by k_asm) (by k_asm) ?_ ?_); rotate_left; (intro D9 vs9 nn9 h9 tk9 hI9 F9 N9 o9; (try dsimp only)); rotate_left; (intro k9 t9 C9 oC9 m9 E9 s9 hm9 hC9 hx9 F9 N9; obtain ⟨hb9, hc9⟩ := tap_bnd hm9)))
local macro_rules | `(tactic| walk_at "compareOp Eq bool bool") => `(tactic| (k_here; (refine eq_bool_true (law_end (by assumption) (by omega) (by assumption)) ?_)))
local macro_rules | `(tactic| walk_at "Gives") => `(tactic| exact ⟨⟨_, rfl⟩, _, _, rfl, fun _ _ e9 => e9⟩)
set_option maxHeartbeats 8000000 in
theorem PySem.Challenge.cw_pe0016_01_holds : PySem.Challenge.rw_pe0016_01.Holds := by
  refine Mine.hd ?_
  k_with_none
  k_go0
  all_goals try k_fold
  k_steps
end
