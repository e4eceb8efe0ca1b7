import PyProof.Rows.All
import Wide.All
import OpenK.AllK
import Wide.FinOn
import PySem.Challenge.RW_de5014_01
open PySem PySem.W PyProof.Rows PySem.Calls
set_option Elab.async false
namespace Mine
/-- the list's items are the number's binary digits, the lowest first -/
def Dig (n : Int) (ds : List Int) (k : Nat) : Prop := ∀ i : Nat, i < k → ds.getD i 0 = n / 2 ^ i % 2
def Low (n : Int) (ls : List Int) (k : Nat) : Prop := ∀ i : Nat, i ≤ k → ls.getD i 0 = n % 2 ^ i
def High (n : Int) (hs : List Int) (k : Nat) : Prop := ∀ i : Nat, 64 ≤ i + k → i ≤ 64 → hs.getD i 0 = n / 2 ^ i
def Small (hs : List Int) : Prop := ∀ i : Nat, Builtin.Int.intBits (hs.getD i 0) ≤ 70
/-- a number of at most 64 bits -/
def Word (n : Int) : Prop := 0 ≤ n ∧ n < 2 ^ 64

theorem small_get {hs : List Int} (h : Small hs) (i : Nat) : Builtin.Int.intBits (hs.getD i 0) ≤ 70 := h i

theorem getD_append_one (xs : List Int) (x : Int) (i : Nat) : (xs ++ [x]).getD i 0 = if i = xs.length then x else xs.getD i 0 := by
  simp only [List.getD_eq_getElem?_getD]
  rcases Nat.lt_trichotomy i xs.length with h | h | h
  · rw [List.getElem?_append_left h, if_neg (by omega)]
  · subst h
    simp
  · rw [List.getElem?_append_right (by omega), if_neg (by omega), List.getElem?_eq_none (l := xs) (by omega), List.getElem?_eq_none]
    simp only [List.length_cons, List.length_nil]
    omega

theorem getD_set_one (xs : List Int) (x : Int) (j i : Nat) (hj : j < xs.length) : (xs.set j x).getD i 0 = if i = j then x else xs.getD i 0 := by
  simp only [List.getD_eq_getElem?_getD]
  by_cases h : i = j
  · subst h
    simp [hj]
  · rw [if_neg h, List.getElem?_set_ne (fun e => h e.symm)]

theorem two_pos (k : Nat) : (0 : Int) < 2 ^ k := kbt_pos k

theorem div_step (n : Int) (i : Nat) : n / 2 ^ i / 2 = n / 2 ^ (i + 1) := by
  rw [Int.pow_succ, Int.ediv_ediv_of_nonneg (Int.le_of_lt (two_pos i))]

theorem mod_step (n : Int) (i : Nat) : n % 2 ^ (i + 1) = n % 2 ^ i + (n / 2 ^ i % 2) * 2 ^ i := by
  have hp := two_pos i
  have hp1 := two_pos (i + 1)
  have h1 := Int.emod_def n (2 ^ (i + 1))
  have h2 := Int.emod_def n (2 ^ i)
  have h3 := Int.emod_def (n / 2 ^ i) 2
  rw [div_step] at h3
  rw [h1, h2, h3, Int.sub_mul, Int.pow_succ]
  have h4 : (2 : Int) * (n / (2 ^ i * 2)) * 2 ^ i = 2 ^ i * 2 * (n / (2 ^ i * 2)) := by
    rw [Int.mul_comm 2 (n / (2 ^ i * 2)), Int.mul_assoc, Int.mul_comm, Int.mul_comm (2 : Int) (2 ^ i)]
  rw [h4, Int.mul_comm (n / 2 ^ i) (2 ^ i)]
  omega

theorem div_back (n : Int) (i : Nat) : n / 2 ^ (i + 1) * 2 + n / 2 ^ i % 2 = n / 2 ^ i := by
  rw [← div_step]
  omega

theorem word_div {n : Int} (h : Word n) : n / 2 ^ 64 = 0 := Int.ediv_eq_zero_of_lt h.1 h.2

theorem bits70 {x : Int} (h0 : 0 ≤ x) (h1 : x < 2 ^ 64) : Builtin.Int.intBits x ≤ 70 :=
  Nat.le_trans (PySem.intBits_le_64 (by omega) h1) (by decide)

theorem div_word {n : Int} (h : Word n) (i : Nat) : 0 ≤ n / 2 ^ i ∧ n / 2 ^ i < 2 ^ 64 := by
  have h0 := Int.ediv_nonneg h.1 (Int.le_of_lt (two_pos i))
  have h1 := Int.ediv_le_self (2 ^ i) h.1
  have h2 := h.2
  omega

theorem word_fmod (x : Int) : Word (x.fmod (2 ^ Int.toNat 64)) := by
  have h : (2 : Int) ^ Int.toNat 64 = 2 ^ 64 := rfl
  rw [h, Int.fmod_eq_emod_of_nonneg _ (by decide)]
  exact ⟨Int.emod_nonneg _ (by decide), Int.emod_lt_of_pos _ (by decide)⟩

/-! the loop of the digits -/
theorem a_start {n : Int} (h : Word n) : Word n ∧ ([] : List Int).length = ([] : List Int).length ∧ Small [] ∧ Dig n [] ([] : List Int).length ∧ n = n / 2 ^ ([] : List Int).length := by
  refine ⟨h, rfl, ?_, ?_, ?_⟩
  · intro i
    show Builtin.Int.intBits 0 ≤ 70
    decide
  · intro i hi
    exact absurd hi (Nat.not_lt_zero _)
  · show n = n / 2 ^ 0
    simp

theorem fmod2 (r : Int) : r.fmod 2 = r % 2 := Int.fmod_eq_emod_of_nonneg _ (by decide)
theorem fdiv2 (r : Int) : r.fdiv 2 = r / 2 := Int.fdiv_eq_ediv_of_nonneg _ (by decide)

theorem small_append {ds : List Int} {x : Int} (h : Small ds) (h0 : 0 ≤ x) (h1 : x < 2 ^ 64) : Small (ds ++ [x]) := by
  intro i
  rw [getD_append_one]
  split
  · exact bits70 h0 h1
  · exact h i

theorem a_turn {n r k : Int} {ds pre : List Int} (hw : Word n) (hl : ds.length = pre.length) (hs : Small ds) (hd : Dig n ds pre.length) (hr : r = n / 2 ^ pre.length) :
    Word n ∧ (ds ++ [r.fmod 2]).length = (pre ++ [k]).length ∧ Small (ds ++ [r.fmod 2]) ∧ Dig n (ds ++ [r.fmod 2]) (pre ++ [k]).length ∧ r.fdiv 2 = n / 2 ^ (pre ++ [k]).length := by
  have e : (pre ++ [k]).length = pre.length + 1 := by simp
  rw [e, fmod2, fdiv2]
  refine ⟨hw, by simp [hl], small_append hs (by omega) (by omega), ?_, ?_⟩
  · intro i hi
    rw [getD_append_one]
    split
    · rename_i h
      rw [hr, h, hl]
    · exact hd i (by omega)
  · rw [hr, div_step]

/-! the loop of the low parts -/
theorem made64 : (rangeKs 0 (64 - 0 : Int).toNat).length = 64 := by rw [rangeKs_length]; rfl
theorem b_start {n : Int} {ds : List Int} (hw : Word n) (hl : ds.length = (rangeKs 0 (64 - 0 : Int).toNat).length) (hd : Dig n ds (rangeKs 0 (64 - 0 : Int).toNat).length) :
    Word n ∧ ds.length = 64 ∧ Dig n ds 64 ∧ ([0] : List Int).length = ([] : List Int).length + 1 ∧ Low n [0] ([] : List Int).length := by
  rw [made64] at hl hd
  refine ⟨hw, hl, hd, rfl, ?_⟩
  intro i hi
  have e : i = 0 := by simpa using hi
  subst e
  show (0 : Int) = n % 2 ^ 0
  simp
theorem b_turn {n k : Int} {ds pre ls : List Int} (hw : Word n) (hdl : ds.length = 64) (hd : Dig n ds 64) (hm : pre.length < (64 - 0 : Int).toNat) (hk : k = 0 + (pre.length : Int)) (hl : ls.length = pre.length + 1) (h : Low n ls pre.length) :
    Word n ∧ ds.length = 64 ∧ Dig n ds 64 ∧ (ls ++ [ls.getD k.toNat 0 + ds.getD k.toNat 0 * 2 ^ k.toNat]).length = (pre ++ [k]).length + 1 ∧ Low n (ls ++ [ls.getD k.toNat 0 + ds.getD k.toNat 0 * 2 ^ k.toNat]) (pre ++ [k]).length := by
  have e : (pre ++ [k]).length = pre.length + 1 := by simp
  have ek : k.toNat = pre.length := by omega
  rw [e, ek]
  refine ⟨hw, hdl, hd, by simp [hl], ?_⟩
  intro i hi
  rw [getD_append_one]
  split
  · rename_i h1
    rw [h _ (Nat.le_refl _), hd _ (by omega), h1, hl, mod_step]
  · exact h i (by omega)

/-! the loop of the high parts -/
theorem zeros_getD (k i : Nat) : (List.map (fun _ => (0 : Int)) (rangeKs 0 k)).getD i 0 = 0 := by
  rw [List.getD_eq_getElem?_getD, List.getElem?_map]
  cases (rangeKs 0 k)[i]? <;> rfl
abbrev CWord (n : Int) (ds ls pre hs : List Int) : Prop := Word n ∧ ds.length = 64 ∧ Dig n ds 64 ∧ ls.length = 65 ∧ Low n ls 64 ∧ hs.length = 65 ∧ Small hs ∧ High n hs pre.length
theorem c_start {n : Int} {ds ls : List Int} (hw : Word n) (hdl : ds.length = 64) (hd : Dig n ds 64) (hll : ls.length = (rangeKs 0 (64 - 0 : Int).toNat).length + 1) (hlo : Low n ls (rangeKs 0 (64 - 0 : Int).toNat).length) :
    CWord n ds ls [] (List.map (fun _ => (0 : Int)) (rangeKs 0 (65 - 0 : Int).toNat)) := by
  rw [made64] at hll hlo
  refine ⟨hw, hdl, hd, hll, hlo, by rw [List.length_map, rangeKs_length]; rfl, ?_, ?_⟩
  · intro i
    rw [zeros_getD]
    decide
  · intro i h1 h2
    have e : i = 64 := by
      have h3 : 64 ≤ i + 0 := h1
      omega
    rw [zeros_getD, e, word_div hw]
theorem c_turn {n k : Int} {ds ls pre hs : List Int} (hw : Word n) (hdl : ds.length = 64) (hd : Dig n ds 64) (hll : ls.length = 65) (hlo : Low n ls 64) (hp : pre.length < (64 - 0 : Int).toNat) (hk : k = 0 + (pre.length : Int)) (hl : hs.length = 65) (hsm : Small hs) (h : High n hs pre.length) :
    CWord n ds ls (pre ++ [k]) (hs.set (63 - k).toNat (hs.getD (64 - k).toNat 0 * 2 + ds.getD (63 - k).toNat 0)) := by
  have e : (pre ++ [k]).length = pre.length + 1 := by simp
  have e1 : (63 - k).toNat = 63 - pre.length := by omega
  have e2 : (64 - k).toNat = 63 - pre.length + 1 := by omega
  have ev : hs.getD (64 - k).toNat 0 * 2 + ds.getD (63 - k).toNat 0 = n / 2 ^ (63 - pre.length) := by
    rw [e1, e2, h _ (by omega) (by omega), hd _ (by omega), div_back]
  unfold CWord
  rw [ev, e1, e]
  have hb := div_word hw (63 - pre.length)
  refine ⟨hw, hdl, hd, hll, hlo, by simp [hl], ?_, ?_⟩
  · intro i
    rw [getD_set_one _ _ _ _ (by omega)]
    split
    · exact bits70 hb.1 hb.2
    · exact hsm i
  · intro i h1 h2
    rw [getD_set_one _ _ _ _ (by omega)]
    split
    · rename_i h3
      rw [h3]
    · exact h i (by omega) h2

/-! what get_x_bits gives -/
def getX (num mx n : Int) (rb : Bool) : Int := if rb then num % 2 ^ n.toNat else num / 2 ^ (mx - n).toNat % 2 ^ n.toNat

theorem getX_right (num mx n : Int) : getX num mx n true = num % 2 ^ n.toNat := rfl
theorem getX_left (num mx n : Int) : getX num mx n false = num / 2 ^ (mx - n).toNat % 2 ^ n.toNat := rfl
theorem and_right (num mx n : Int) : Builtin.bitAnd num (2 ^ n.toNat - 1) = getX num mx n true := kbt_mask num n.toNat
theorem and_left (num mx n : Int) : Builtin.bitAnd (1 * 2 ^ n.toNat - 1) (num.fdiv (2 ^ (mx - n).toNat)) = getX num mx n false := by
  rw [Int.one_mul, kbt_mask', Int.fdiv_eq_ediv_of_nonneg _ (Int.le_of_lt (two_pos _))]
  rfl
theorem and_right' {num mx n : Int} {rb : Bool} (h : rb = true) : Builtin.bitAnd num (2 ^ n.toNat - 1) = getX num mx n rb := by
  subst h
  exact and_right num mx n
theorem and_left' {num mx n : Int} {rb : Bool} (h : rb = false) : Builtin.bitAnd (1 * 2 ^ n.toNat - 1) (num.fdiv (2 ^ (mx - n).toNat)) = getX num mx n rb := by
  subst h
  exact and_left num mx n
theorem getX_bits {num mx n : Int} {rb : Bool} (h : n ≤ 64) : Builtin.Int.intBits (getX num mx n rb) ≤ 70 := by
  have hp := two_pos n.toNat
  have key : ∀ x : Int, Builtin.Int.intBits (x % 2 ^ n.toNat) ≤ 70 := by
    intro x
    have h0 := Int.emod_nonneg x (show (2 : Int) ^ n.toNat ≠ 0 by omega)
    have h1 := Int.emod_lt_of_pos x hp
    refine intBits_le_iff.mpr ?_
    have h2 : (2 : Int) ^ n.toNat ≤ 2 ^ 64 := by
      have := Nat.pow_le_pow_right (show 0 < 2 by decide) (show n.toNat ≤ 64 by omega)
      have h3 := kbt_cast n.toNat
      have h4 := kbt_cast 64
      omega
    have h5 : (2 : Int) ^ 64 < 2 ^ 70 := by decide
    have h6 := kbt_cast 70
    omega
  unfold getX
  split
  · exact key _
  · exact key _

/-! the ways that would hand back False -/
theorem cut_small {s : Int} {w c : Nat} (h0 : 0 ≤ s) (h1 : s < 2 ^ w) (hc : c ≤ w) : s / 2 ^ (w - c) % 2 ^ c = s / 2 ^ (w - c) := by
  refine Int.emod_eq_of_lt (Int.ediv_nonneg h0 (Int.le_of_lt (two_pos _))) (Int.ediv_lt_of_lt_mul (two_pos _) ?_)
  rw [← Int.pow_add, show c + (w - c) = w by omega]
  exact h1
theorem cut_whole (s : Int) (c : Nat) : s / 2 ^ c * 2 ^ c + s % 2 ^ c = s := by
  have h := Int.emod_def s (2 ^ c)
  rw [h, Int.mul_comm (2 ^ c)]
  omega
theorem fdivP (x : Int) (k : Nat) : x.fdiv (2 ^ k) = x / 2 ^ k := Int.fdiv_eq_ediv_of_nonneg _ (Int.le_of_lt (two_pos _))
theorem fmodP (x : Int) (k : Nat) : x.fmod (2 ^ k) = x % 2 ^ k := Int.fmod_eq_emod_of_nonneg _ (Int.le_of_lt (two_pos _))
theorem left_word {n k : Int} {j : Nat} (hw : Word n) (hk : k = 0 + (j : Int)) (hp : j < (65 - 0 : Int).toNat) : getX n 64 (64 - k) false = n / 2 ^ j := by
  have e1 : (64 - (64 - k)).toNat = 64 - (64 - j) := by omega
  have e2 : (64 - k).toNat = 64 - j := by omega
  rw [getX_left, e1, e2, cut_small hw.1 hw.2 (by omega), show 64 - (64 - j) = j by omega]
theorem right_at {x m k : Int} {j : Nat} (hk : k = 0 + (j : Int)) : getX x m k true = x % 2 ^ j := by
  rw [getX_right, show k.toNat = j by omega]
theorem d1 {n k : Int} {hs pre : List Int} {G : Prop} (h : getX n 64 (64 - k) false ≠ hs.getD k.toNat 0) (hw : Word n) (hh : High n hs (rangeKs 0 (64 - 0 : Int).toNat).length) (hk : k = 0 + (pre.length : Int)) (hp : pre.length < (65 - 0 : Int).toNat) : G := by
  refine absurd ?_ h
  rw [made64] at hh
  rw [left_word hw hk hp, show k.toNat = pre.length by omega, hh _ (by omega) (by omega)]
theorem d2 {n k : Int} {ls pre : List Int} {G : Prop} (h : getX n 64 k true ≠ ls.getD k.toNat 0) (hl : Low n ls 64) (hk : k = 0 + (pre.length : Int)) (hp : pre.length < (65 - 0 : Int).toNat) : G := by
  refine absurd ?_ h
  rw [right_at hk, show k.toNat = pre.length by omega, hl _ (by omega)]
theorem d3 {n k : Int} {pre : List Int} {G : Prop} (h : getX n 64 (64 - k) false * 2 ^ k.toNat + getX n 64 k true ≠ n) (hw : Word n) (hk : k = 0 + (pre.length : Int)) (hp : pre.length < (65 - 0 : Int).toNat) : G := by
  refine absurd ?_ h
  rw [left_word hw hk hp, right_at hk, show k.toNat = pre.length by omega, cut_whole]
theorem d4 {x m k : Int} {G : Prop} (h : getX x m k true ≠ x.fmod (2 ^ k.toNat)) : G := by
  refine absurd ?_ h
  rw [getX_right, fmodP]
theorem d5 {x k : Int} {pre : List Int} {G : Prop} (h : getX x 64 (64 - k) false ≠ (x.fdiv (2 ^ k.toNat)).fmod (2 ^ (64 - k).toNat)) (hk : k = 0 + (pre.length : Int)) : G := by
  refine absurd ?_ h
  rw [getX_left, fmodP, fdivP, show (64 - (64 - k)).toNat = k.toNat by omega]
theorem left_short {x w k : Int} {j : Nat} (hk : k = 0 + (j : Int)) (hp : j < (w + 1 - 0).toNat) : getX (x.fmod (2 ^ w.toNat)) w k false = x.fmod (2 ^ w.toNat) / 2 ^ (w - k).toNat := by
  have hp2 := two_pos w.toNat
  have h0 := Int.emod_nonneg x (show (2 : Int) ^ w.toNat ≠ 0 by omega)
  have h1 := Int.emod_lt_of_pos x hp2
  have e : (w - k).toNat = w.toNat - k.toNat := by omega
  rw [getX_left, fmodP, e, cut_small h0 h1 (by omega)]
theorem e1 {x w k : Int} {pre : List Int} {G : Prop} (h : getX (x.fmod (2 ^ w.toNat)) w k false ≠ (x.fmod (2 ^ w.toNat)).fdiv (2 ^ (w - k).toNat)) (hk : k = 0 + (pre.length : Int)) (hp : pre.length < (w + 1 - 0).toNat) : G := by
  refine absurd ?_ h
  rw [left_short hk hp, fdivP]
theorem e2 {x w k : Int} {pre : List Int} {G : Prop} (h : getX (x.fmod (2 ^ w.toNat)) w k false * 2 ^ (w - k).toNat + getX (x.fmod (2 ^ w.toNat)) w (w - k) true ≠ x.fmod (2 ^ w.toNat)) (hk : k = 0 + (pre.length : Int)) (hp : pre.length < (w + 1 - 0).toNat) : G := by
  refine absurd ?_ h
  rw [left_short hk hp, getX_right, cut_whole]

/-! two ways that meet -/
/-- an int came back, and nothing but the clock of tokens has moved -/
def Joined (s : Shared) (v : Value) (s' : Shared) : Prop := ∃ (x : Int) (t : Tok) (n : Nat), v = .int x t ∧ s' = { s with toks := n }
theorem joined_here {s : Shared} {x : Int} {t : Tok} {n : Nat} : Joined s (.int x t) { s with toks := n } := ⟨x, t, n, rfl, rfl⟩
theorem join_int {prog : Program} {w : World} {A : Around} {s : Shared} {tree : Sem Value} {Q E : Value → Shared → Prop}
    (h1 : wpAny (model prog w) A tree (Joined s) E s) (h2 : ∀ (x : Int) (t : Tok) (n : Nat), Q (.int x t) { s with toks := n }) : wpAny (model prog w) A tree Q E s := by
  refine wpAny_mono h1 (fun v s' h => ?_) fun _ _ h => h
  obtain ⟨x, t, n, rfl, rfl⟩ := h
  exact h2 x t n
end Mine
local macro_rules | `(tactic| bits_by_make) => `(tactic| first | ((with_reducible refine Mine.small_get ?_ _); assumption) | ((with_reducible refine Mine.getX_bits ?_); l_bnd))
local macro_rules | `(tactic| walk_at "subscriptTail Name Name ref int") => `(tactic| (dsimp only; walk1))
local macro_rules | `(tactic| walk_at "subscriptTail Name BinOp ref int") => `(tactic| (dsimp only; walk1))
local macro_rules | `(tactic| walk_at "InvEndN") => `(tactic| k_dflt (first | ksr_close | kst_close))
local macro_rules | `(tactic| cell_enter) => `(tactic| ((refine code_def (by k_asm) (by k_asm) (by k_asm) (by k_asm) (by k_asm) rfl rfl (by assumption) (by k_is) (by k_is) (by ktr_room) (by exact binds_K (by k_in) rfl (by k_is) rfl rfl rfl) (by exact locs rfl) ?_ (by rfl) (by rfl) (by rfl) (by decide)); intro _ _ _ _ _ _ below _ _; (try dsimp only); (try k_lift below); (try k_fold)))
local macro_rules | `(tactic| walk_at "call ref") => `(tactic| (k_call_by "get_x_bits" Mine.getX (fun (num mx n : Int) (rb : Bool) => 0 ≤ n ∧ n ≤ mx ∧ mx ≤ 64)))
local macro_rules | `(tactic| walk_at "Joined") => `(tactic| k_dflt (exact Mine.joined_here))
local macro_rules | `(tactic| walk_at "eval IfExp") => `(tactic| ((goal_lacks Mine.Joined); (refine Mine.join_int ?_ ?_); rotate_left; (intro _ _ _; try dsimp only); rotate_left))
local macro_rules | `(tactic| walk_at "ite") => `(tactic| ((goal_has Mine.getX); (with_reducible refine split_ine ?_ ?_); (focus (intro wr; with_reducible (first | exact Mine.d4 wr | exact Mine.d5 wr (by assumption) | exact Mine.d2 wr (by assumption) (by assumption) (by assumption) | exact Mine.d1 wr (by assumption) (by assumption) (by assumption) (by assumption) | exact Mine.e1 wr (by assumption) (by assumption) | exact Mine.e2 wr (by assumption) (by assumption) | exact Mine.d3 wr (by assumption) (by assumption) (by assumption)))); intro _))
set_option maxRecDepth 100000 in
set_option maxHeartbeats 8000000 in
theorem PySem.Challenge.cw_de5014_01_holds : PySem.Challenge.rw_de5014_01.Holds := by
  k_with "pyIter ref" => k_of "cut" => k_search (fun _ => True)
  k_with "pyIter ref" => k_of "at" => k_state_given ["number", "digits"] (fun n ds pre ls => Mine.Word n ∧ ds.length = 64 ∧ Mine.Dig n ds 64 ∧ ls.length = pre.length + 1 ∧ Mine.Low n ls pre.length) "lows"
  k_with "pyIter ref" => k_of "at" => k_state_given ["number", "digits", "lows"] (fun n ds ls pre hs => Mine.CWord n ds ls pre hs) "highs"
  k_with "pyIter ref" => k_of "at" => k_state_given ["rest!"] (fun n pre ds r => Mine.Word n ∧ ds.length = pre.length ∧ Mine.Small ds ∧ Mine.Dig n ds pre.length ∧ r = n / 2 ^ pre.length) "digits" "rest"
  k_with "state" => first
    | exact True.intro
    | exact Mine.a_turn (by assumption) (by assumption) (by assumption) (by assumption) (by assumption)
    | exact Mine.a_start (Mine.word_fmod _)
    | exact Mine.b_start (by assumption) (by assumption) (by assumption)
    | exact Mine.b_turn (by assumption) (by assumption) (by assumption) (by assumption) (by assumption) (by assumption) (by assumption)
    | exact Mine.c_start (by assumption) (by assumption) (by assumption) (by assumption) (by assumption)
    | exact Mine.c_turn (by assumption) (by assumption) (by assumption) (by assumption) (by assumption) (by assumption) (by assumption) (by assumption) (by assumption) (by assumption)
  k_with "tree" => ((with_reducible show _ = Mine.getX _ _ _ _); first | exact Mine.and_right' (by assumption) | exact Mine.and_left' (by assumption))
  w_on; o_law; k_head; (case hw => w_witness2); w_strict k_go
