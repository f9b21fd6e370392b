import PyProof.Rows.All
import Wide.All
import OpenK.AllK
import Wide.FinOn
import PySem.Challenge.RW_kg0011_01
open PySem PySem.W PyProof.Rows
set_option Elab.async false

namespace Mine
/-- three ints out of a list of ints of length three -/
theorem three_of {vs : List Value} {ns : List Int} (h : IntsAre vs ns) (hl : ns.length = 3) :
    ∃ a b c t u v, vs = [.int a t, .int b u, .int c v] := by
  cases h with
  | nil => simp at hl
  | cons a t h1 => cases h1 with
    | nil => simp at hl
    | cons b u h2 => cases h2 with
      | nil => simp at hl
      | cons c v h3 => cases h3 with
        | nil => exact ⟨a, b, c, t, u, v, rfl⟩
        | cons d x h4 => simp at hl

theorem take3_length (ns : List Int) : (List.take 3 (ns ++ [0, 0, 0])).length = 3 := by
  rw [List.length_take, List.length_append]
  simp only [List.length_cons, List.length_nil]
  omega

/-- the powers of ten, as a word of its own: nothing reckons one out -/
def ten (n : Int) : Int := 10 ^ n.toNat

theorem ten_def (n : Int) : ten n = 10 ^ n.toNat := by unfold ten; rfl
theorem ten_pos (n : Int) : 0 < ten n := by rw [ten_def]; exact Int.pow_pos (by decide)
theorem ten_ne (n : Int) : ten n ≠ 0 := Int.ne_of_gt (ten_pos n)

section
variable {prog : Program} {w : World} {A : Around} {E : Value → Shared → Prop} {s : Shared} {t u : Tok} {Q : Value → Shared → Prop}
theorem pow_ten {n : Int} (h0 : 0 ≤ n) (h1 : n ≤ 1000000) (h : Q (.int (ten n) s.toks) { s with toks := s.toks + 1 }) :
    wpAny (model prog w) A (binaryOp .Pow (.int 10 t) (.int n u)) Q E s :=
  pow_int_small h0 h1 (by decide) (by rw [← ten_def]; exact h)
end

theorem ten_cast (n : Int) : ten n = ((10 ^ n.toNat : Nat) : Int) := by rw [ten_def, Int.natCast_pow]; rfl
theorem ten_natAbs (n : Int) : (ten n).natAbs = 10 ^ n.toNat := by rw [ten_cast, Int.natAbs_natCast]

/-- an int that stays far below the limit of figures -/
structure Sized (n : Int) : Prop where
  lt : n.natAbs < 10 ^ 4010
theorem Sized_def (n : Int) : Sized n ↔ n.natAbs < 10 ^ 4010 := ⟨fun h => h.lt, fun h => ⟨h⟩⟩

theorem Sized.neg {n : Int} (h : Sized n) : Sized (0 - n) := by
  rw [Sized_def] at *; rw [Int.zero_sub, Int.natAbs_neg]; exact h
theorem Sized.zero : Sized 0 := by rw [Sized_def]; exact Nat.pow_pos (by decide)

theorem bits_of_lt {a : Int} {k : Nat} (h : a.natAbs < 2 ^ k) : Builtin.Int.intBits a ≤ k := by
  unfold Builtin.Int.intBits
  split
  · exact Nat.zero_le _
  · rename_i hne
    have h0 : a.natAbs ≠ 0 := by
      intro e
      apply hne
      rw [Int.natAbs_eq_zero.mp e]; rfl
    have := (Nat.log2_lt h0).mpr h
    omega

theorem lid_bits : (10 : Nat) ^ 4010 < 2 ^ 14000 := by decide +kernel
theorem lid_text : (10 : Nat) ^ 4010 ≤ 10 ^ 4300 := Nat.pow_le_pow_right (by decide) (by decide)

theorem Sized.bits {n : Int} (h : Sized n) : Builtin.Int.intBits n ≤ 14000 :=
  bits_of_lt (Nat.lt_trans ((Sized_def n).mp h) lid_bits)

theorem ten_bits {n : Int} (h : n ≤ 20) : Builtin.Int.intBits (ten n) ≤ 70 := by
  refine bits_of_lt ?_
  rw [ten_natAbs]
  refine Nat.lt_of_le_of_lt (Nat.pow_le_pow_right (by decide) (?_ : n.toNat ≤ 20)) (by decide +kernel)
  omega

theorem first_sized (x y : Int) (h1 : y ≤ 9) : Sized (Int.fmod x (ten 4000) * ten y) := by
  rw [Sized_def, Int.natAbs_mul, ten_natAbs]
  have hm0 : 0 ≤ Int.fmod x (ten 4000) := Int.fmod_nonneg_of_pos _ (ten_pos _)
  have hm1 : Int.fmod x (ten 4000) < ten 4000 := Int.fmod_lt_of_pos _ (ten_pos _)
  have hm2 : (Int.fmod x (ten 4000)).natAbs < 10 ^ 4000 := by
    have e : (ten 4000).natAbs = 10 ^ 4000 := ten_natAbs 4000
    rw [← e]
    omega
  have hy : 10 ^ y.toNat ≤ 10 ^ 10 := Nat.pow_le_pow_right (by decide) (by omega)
  have : (10 : Nat) ^ 4010 = 10 ^ 4000 * 10 ^ 10 := by rw [← Nat.pow_add]
  rw [this]
  exact Nat.mul_lt_mul_of_lt_of_le hm2 hy (Nat.pow_pos (by decide))

section
variable {prog : Program} {w : World} {A : Around} {E : Value → Shared → Prop} {s : Shared} {t u : Tok} {Q : Value → Shared → Prop}
theorem first_mul {x y : Int} (h1 : y ≤ 9) (h : ∀ n, Sized n → Q (.int n s.toks) { s with toks := s.toks + 1 }) :
    wpAny (model prog w) A (binaryOp .Mult (.int (Int.fmod x (ten 4000)) t) (.int (ten y) u)) Q E s := by
  refine mul_int (h _ (first_sized x y h1)) (IntMulOk.of_le (m := 14000) (n := 70) ?_ (ten_bits (by omega)) (by decide))
  have hs := (first_sized x 0 (by decide)).bits
  rwa [show ten 0 = 1 from by rw [ten_def]; rfl, Int.mul_one] at hs
theorem sized_mul {n y : Int} (hn : Sized n) (h1 : y ≤ 20) (h : Q (.int (n * ten y) s.toks) { s with toks := s.toks + 1 }) :
    wpAny (model prog w) A (binaryOp .Mult (.int n t) (.int (ten y) u)) Q E s :=
  mul_int h (IntMulOk.of_le (m := 14000) (n := 70) hn.bits (ten_bits h1) (by decide))
end

open PySem.NumText

theorem val_zeros (a : List Nat) : ∀ k : Nat, digitsVal (a ++ List.replicate k 48) = digitsVal a * 10 ^ k
  | 0 => by simp
  | k + 1 => by
    rw [List.replicate_succ', ← List.append_assoc, digitsVal_snoc, val_zeros a k, Nat.pow_succ, Nat.mul_assoc]
    rfl

theorem drop_zeros (l : List Nat) (hi : Nat) (h : ∀ k, hi ≤ k → k < l.length → l.getD k 0 = 48) : l.drop hi = List.replicate (l.length - hi) 48 := by
  rw [List.eq_replicate_iff]
  refine ⟨List.length_drop, fun b hb => ?_⟩
  obtain ⟨i, hi1, e⟩ := List.mem_iff_getElem.mp hb
  rw [List.length_drop] at hi1
  have h2 := h (hi + i) (by omega) (by omega)
  rw [List.getElem_drop] at e
  rw [← e, ← h2, List.getD_eq_getElem?_getD, List.getElem?_eq_getElem (by omega), Option.getD_some]

theorem take_last (l : List Nat) (hi : Nat) (h0 : 0 < hi) (h1 : hi ≤ l.length) : l.take hi = l.take (hi - 1) ++ [l.getD (hi - 1) 0] := by
  obtain ⟨j, rfl⟩ : ∃ j, hi = j + 1 := ⟨hi - 1, by omega⟩
  rw [Nat.add_sub_cancel, List.getD_eq_getElem?_getD, List.getElem?_eq_getElem (by omega), Option.getD_some]
  exact (List.take_append_getElem (by omega)).symm

theorem pow_dvd_zeros {q z k : Nat} (hq : q % 10 ≠ 0) : 10 ^ k ∣ q * 10 ^ z ↔ k ≤ z := by
  constructor
  · intro h
    refine Nat.le_of_not_lt fun hlt => hq ?_
    have h1 : 10 ^ (z + 1) ∣ q * 10 ^ z := Nat.dvd_trans (Nat.pow_dvd_pow 10 hlt) h
    rw [Nat.pow_succ, Nat.mul_comm (10 ^ z) 10] at h1
    have h2 : 10 ∣ q := Nat.dvd_of_mul_dvd_mul_right (Nat.pow_pos (by decide)) h1
    exact Nat.mod_eq_zero_of_dvd h2
  · intro h
    exact Nat.dvd_trans (Nat.pow_dvd_pow 10 h) (Nat.dvd_mul_left _ _)

/-- the figures of a number, of which the noughts at the end are counted -/
theorem zeros_list (m : Nat) (hm : m ≠ 0) (l : List Nat) (hl : l = (Nat.toDigits 10 m).map Char.toNat) (hi : Nat) (hh : hi ≤ l.length)
    (h1 : ∀ k, hi ≤ k → k < l.length → l.getD k 0 = 48) (h2 : hi = 0 ∨ l.getD (hi - 1) 0 ≠ 48) (k : Nat) : 10 ^ k ∣ m ↔ k + hi ≤ l.length := by
  have hv : digitsVal l = m := by rw [hl]; exact KIN.val_back m
  have hr : ∀ c ∈ l, 48 ≤ c ∧ c ≤ 57 := by
    intro c hc
    rw [hl] at hc
    obtain ⟨ch, hch, e⟩ := List.mem_map.mp hc
    have r := digit_range (Nat.isDigit_of_mem_toDigits (by decide) (by decide) hch)
    rw [← e]
    exact r
  have hs : l = l.take hi ++ List.replicate (l.length - hi) 48 := by
    rw [← drop_zeros l hi h1, List.take_append_drop]
  have hval : m = digitsVal (l.take hi) * 10 ^ (l.length - hi) := by
    rw [← hv]
    exact (congrArg digitsVal hs).trans (val_zeros _ _)
  by_cases h0 : hi = 0
  · subst h0
    rw [List.take_zero] at hval
    exact absurd (hval.trans (Nat.zero_mul _)) hm
  · have h3 : l.getD (hi - 1) 0 ≠ 48 := h2.resolve_left h0
    have hmem : l.getD (hi - 1) 0 ∈ l := by
      rw [List.getD_eq_getElem?_getD, List.getElem?_eq_getElem (by omega), Option.getD_some]
      exact List.getElem_mem _
    have h4 := hr _ hmem
    have hq : digitsVal (l.take hi) % 10 ≠ 0 := by
      rw [take_last l hi (by omega) hh, digitsVal_snoc]
      omega
    rw [hval, pow_dvd_zeros hq]
    omega

theorem zeros_text (m : Nat) (hm : m ≠ 0) (k : Nat) :
    10 ^ k ∣ m ↔ k + (Txt.rstripChars (Str.ofString (toString (m : Int))) (Str.ofString "0")).length ≤ (Str.ofString (toString (m : Int))).length := by
  have hl := KIN.signs_num m
  generalize Str.ofString (toString (m : Int)) = x at hl ⊢
  have hz : ∀ c : Nat, (Str.ofString "0").cps.contains c = (c == 48) := by
    intro c
    rw [show (Str.ofString "0").cps = #[48] from by decide]
    simp
    rfl
  obtain ⟨_, h0, h1, h2⟩ := hi_facts (Str.ofString "0").cps.contains x 0 (Nat.zero_le _)
  have hlen : x.cps.toList.length = x.length := by simp [Str.length]
  have he : (Txt.rstripChars x (Str.ofString "0")).length = stripHi (Str.ofString "0").cps.contains true x 0 := by
    unfold Txt.rstripChars
    rw [PyProof.Rows.stripBy_eq]
    show (Builtin.Str.strSub x 0 (stripHi (Str.ofString "0").cps.contains true x 0)).length = _
    generalize stripHi (Str.ofString "0").cps.contains true x 0 = j at h0 ⊢
    unfold Builtin.Str.strSub Str.length
    rw [Array.size_extract]
    have : j ≤ x.cps.size := h0
    omega
  rw [he, ← hlen]
  refine zeros_list m hm _ hl _ (by rw [hlen]; exact h0) (fun i hi hi2 => ?_) ?_ k
  · have := h1 i hi (by rw [← hlen]; exact hi2)
    rw [hz, beq_iff_eq] at this
    rw [getD_list]; exact this
  · rcases h2 with h | h
    · exact .inl h
    · refine .inr ?_
      rw [hz, beq_eq_false_iff_ne] at h
      rw [getD_list]; exact h

/-- x is the number's figures without its sign -/
structure TextOf (n : Int) (x : Str) : Prop where
  eq : x = Str.ofString (toString ((n.natAbs : Nat) : Int))
theorem TextOf_def (n : Int) (x : Str) : TextOf n x ↔ x = Str.ofString (toString ((n.natAbs : Nat) : Int)) := ⟨fun h => h.eq, fun h => ⟨h⟩⟩
/-- y is x without the noughts at its end -/
structure CutOf (n : Int) (x y : Str) : Prop where
  both : TextOf n x ∧ y = Txt.rstripChars x (Str.ofString "0")
theorem CutOf_def (n : Int) (x y : Str) : CutOf n x y ↔ TextOf n x ∧ y = Txt.rstripChars x (Str.ofString "0") := ⟨fun h => h.both, fun h => ⟨h⟩⟩

theorem abs_natAbs (n : Int) : (if n < 0 then -n else n) = ((n.natAbs : Nat) : Int) := by split <;> omega

theorem TextOf.len {n : Int} {x : Str} (h : TextOf n x) (hs : Sized n) : x.length ≤ 4010 := by
  rw [TextOf_def] at h
  rw [Sized_def] at hs
  have hl := KIN.signs_num n.natAbs
  rw [← h] at hl
  have hlen : x.cps.toList.length = x.length := by simp [Str.length]
  rw [← hlen, hl, List.length_map]
  exact digits10_le (by decide) hs
theorem CutOf.len {n : Int} {x y : Str} (h : CutOf n x y) (hs : Sized n) : y.length ≤ 4010 := by
  rw [CutOf_def] at h
  rw [h.2]
  exact Nat.le_trans (len_rstripChars _ _) (h.1.len hs)

theorem fmod_zero_iff (n k : Int) : n.fmod (ten k) = 0 ↔ 10 ^ k.toNat ∣ n.natAbs := by
  rw [Int.fmod_eq_emod_of_nonneg n (Int.le_of_lt (ten_pos k)), ← ten_natAbs, Int.natAbs_dvd_natAbs]
  exact ⟨Int.dvd_of_emod_eq_zero, Int.emod_eq_zero_of_dvd⟩

theorem CutOf.law {n : Int} {x y : Str} (h : CutOf n x y) (hn : n ≠ 0) {k : Int} (hk : 0 ≤ k) :
    ((x.length : Int) - (y.length : Int) < k) ↔ n.fmod (ten k) ≠ 0 := by
  rw [CutOf_def] at h
  obtain ⟨hx, hy⟩ := h
  rw [TextOf_def] at hx
  have hz := zeros_text n.natAbs (by omega) k.toNat
  rw [← hx, ← hy, ← fmod_zero_iff] at hz
  rw [Ne, hz]
  omega

theorem back {n k : Int} (h : n.fmod (ten k) = 0) : n.fdiv (ten k) * ten k = n := by
  have := Int.mul_fdiv_add_fmod n (ten k)
  rw [h, Int.add_zero, Int.mul_comm] at this
  exact this

theorem fdiv_sized {n : Int} (k : Int) (hs : Sized n) : Sized (n.fdiv (ten k)) := by
  rw [Sized_def] at *
  refine Nat.lt_of_le_of_lt ?_ hs
  have hp := ten_pos k
  generalize ten k = T at hp
  rw [Int.fdiv_eq_ediv_of_nonneg n (Int.le_of_lt hp)]
  exact Int.natAbs_ediv_le_natAbs n T

section
variable {prog : Program} {w : World} {A : Around} {E : Value → Shared → Prop} {s : Shared} {t u : Tok} {Q : Value → Shared → Prop} {n : Int} {x y : Str}
theorem neg_step (hs : Sized n) (h : ∀ m, Sized m → Q (.int m s.toks) { s with toks := s.toks + 1 }) :
    wpAny (model prog w) A (binaryOp .Sub (.int 0 t) (.int n u)) Q E s := sub_int (h _ hs.neg)
theorem str_step (hh : A.handled = none) (hd : s.heap.NoDigits) (hs : Sized n) (h : ∀ x, TextOf n x → Q (.str x s.toks) { s with toks := s.toks + 1 }) :
    wpAny (model prog w) A (call (.type "str") [.int (if n < 0 then -n else n) t]) Q E s := by
  rw [abs_natAbs]
  rw [Sized_def] at hs
  refine str_of_int_or hh hd (fun _ => h _ ((TextOf_def _ _).mpr rfl)) (fun hbad => ?_)
  rw [Int.natAbs_natCast] at hbad
  exact absurd (Nat.lt_of_lt_of_le hs lid_text) (Nat.not_lt.mpr hbad)
theorem len_step (hx : TextOf n x) (hs : Sized n) (h : Q (.int x.length (s.toks + 1)) { s with toks := s.toks + 1 + 1 }) :
    wpAny (model prog w) A (call (.builtin "len") [.str x t]) Q E s := P.len_str (by have := hx.len hs; omega) h
theorem len_cut_step (hx : CutOf n x y) (hs : Sized n) (h : Q (.int y.length (s.toks + 1)) { s with toks := s.toks + 1 + 1 }) :
    wpAny (model prog w) A (call (.builtin "len") [.str y t]) Q E s := P.len_str (by have := hx.len hs; omega) h
theorem cut_step (hx : TextOf n x) (hs : Sized n) (h : ∀ y t' k, CutOf n x y → Q (.str y t') { s with toks := k }) :
    wpAny (model prog w) A (call (.builtin "str.rstrip") [.str x t, .str (Str.ofString "0") u]) Q E s :=
  SC.rstripChars (fun t' k => h _ t' k ((CutOf_def _ _ _).mpr ⟨hx, rfl⟩)) (by have := hx.len hs; rw [sizeLine_eq]; omega)
theorem usub_step {e : Int} (h : ∀ u tk, Q (.int (0 - e) u) { s with toks := tk }) : wpAny (model prog w) A (unaryOp .USub (.int e t)) Q E s := by
  refine neg_int ?_
  rw [← Int.zero_sub]
  exact h _ _
theorem lt_step {k : Int} (hc : CutOf n x y) (hn : n ≠ 0) (hk : 0 ≤ k) (h : Q (.bool (decide (n.fmod (ten k) ≠ 0))) s) :
    wpAny (model prog w) A (compareOp .Lt (.int ((x.length : Int) - (y.length : Int)) t) (.int k u)) Q E s := by
  refine lt_int ?_
  rw [decide_eq_decide.mpr (hc.law hn hk)]
  exact h
theorem div_step {k : Int} (hk : k ≤ 20) (h : Q (.int (n.fdiv (ten k)) s.toks) { s with toks := s.toks + 1 }) :
    wpAny (model prog w) A (binaryOp .FloorDiv (.int n t) (.int (ten k) u)) Q E s := by
  refine floordiv_int (ten_ne _) h (Or.inl (PyProof.noPylong_of_log2 ?_))
  have hb := ten_bits hk
  unfold Builtin.Int.intBits at hb
  split at hb
  · rename_i hz
    exact absurd (eq_of_beq hz) (ten_ne k)
  · omega
theorem back_step {k : Int} (hs : Sized n) (hk : k ≤ 20) (hz : n.fmod (ten k) = 0) (h : Q (.int n s.toks) { s with toks := s.toks + 1 }) :
    wpAny (model prog w) A (binaryOp .Mult (.int (n.fdiv (ten k)) t) (.int (ten k) u)) Q E s :=
  sized_mul (fdiv_sized k hs) hk (by rw [back hz]; exact h)
end
end Mine

open Mine
local macro_rules | `(tactic| walk_at "assign Tuple") => `(tactic| (k_here; (with_reducible show wpAny _ _ (assign (Expr.Tuple _ _ _) _ (Value.ref _)) _ _ _); (with_reducible rename IntsAre _ (List.take 3 (_ ++ [0, 0, 0])) => hT); (obtain ⟨one, two, three, t1, t2, t3, hv⟩ := three_of hT (take3_length _)); subst hv; k_dflt (refine' kun_list ?k1 ?k2 ?k3 ?k4 ?k5 ?k6 ?_; (case k1 => k_asm); (case k2 => k_asm); (case k3 => kun_lst); (case k4 => exact rfl); (case k5 => exact rfl); (case k6 => exact rfl); k_whole); intro h' F' N'; (try k_sweep); (try dsimp only)))
local macro_rules | `(tactic| walk_at "binaryOp Pow int int") => `(tactic| (k_here; (try k_fmods); (with_reducible refine pow_ten ?kb1 ?kb2 ?_); (case kb1 => l_bnd); (case kb2 => l_bnd)))
local macro_rules | `(tactic| walk_at "binaryOp Mod int int") => `(tactic| (k_here; (with_reducible show wpAny _ _ (binaryOp _ _ (Value.int (ten _) _)) _ _ _); (with_reducible refine mod_int' (ten_ne _) ?_)))
local macro_rules | `(tactic| walk_at "binaryOp Mult int int") => `(tactic| (k_here; (with_reducible refine sized_mul ?kb0 ?kb1 ?_); (case kb0 => with_reducible assumption); (case kb1 => l_bnd)))
local macro_rules | `(tactic| walk_at "binaryOp Mult int int") => `(tactic| (k_here; (with_reducible refine back_step ?kb0 ?kb1 ?kb2 ?_); (case kb0 => with_reducible assumption); (case kb1 => l_bnd); (case kb2 => l_bnd)))
local macro_rules | `(tactic| walk_at "binaryOp Mult int int") => `(tactic| (k_here; (with_reducible refine first_mul ?kb1 ?_); (case kb1 => l_bnd); intro num hnum; (try dsimp only)))
local macro_rules | `(tactic| walk_at "binaryOp Sub int int") => `(tactic| (k_here; (with_reducible refine neg_step ?kb1 ?_); (case kb1 => with_reducible assumption); intro num hnum))
local macro_rules | `(tactic| walk_at "binaryOp FloorDiv int int") => `(tactic| (k_here; (with_reducible refine div_step ?kb1 ?_); (case kb1 => l_bnd)))
local macro_rules | `(tactic| walk_at "unaryOp USub int") => `(tactic| (k_here; (with_reducible refine usub_step ?_); intro _ _))
local macro_rules | `(tactic| walk_at "call type:str") => `(tactic| (k_here; (with_reducible refine str_step ?kb0 ?kb1 ?kb2 ?_); (case kb0 => k_dflt exact rfl); (case kb1 => exact noDigits_of (by assumption) (by assumption)); (case kb2 => with_reducible assumption); intro txt htxt))
local macro_rules | `(tactic| walk_at "call builtin:str.rstrip") => `(tactic| (k_here; (with_reducible refine' cut_step ?kb0 ?kb1 ?_); (case kb0 => with_reducible assumption); (case kb1 => with_reducible assumption); k_whole; intro cut _ _ hcut))
local macro_rules | `(tactic| walk_at "call builtin:len") => `(tactic| (k_here; (with_reducible refine' len_cut_step ?kb0 ?kb1 ?_); (case kb0 => with_reducible assumption); (case kb1 => with_reducible assumption)))
local macro_rules | `(tactic| walk_at "call builtin:len") => `(tactic| (k_here; (with_reducible refine' len_step ?kb0 ?kb1 ?_); (case kb0 => with_reducible assumption); (case kb1 => with_reducible assumption)))
local macro_rules | `(tactic| walk_at "compareOp Lt int int") => `(tactic| (k_here; (with_reducible refine' lt_step ?kb0 ?kb1 ?kb2 ?_); (case kb0 => with_reducible assumption); (case kb1 => with_reducible assumption); (case kb2 => l_bnd)))

set_option maxRecDepth 100000 in
set_option maxHeartbeats 8000000 in
theorem PySem.Challenge.cw_kg0011_01_holds : PySem.Challenge.rw_kg0011_01.Holds := by
  open_k
