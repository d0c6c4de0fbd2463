import PyProof.Rows.All
import Wide.All
import OpenK.AllK
import Wide.FinOn
import Lean
import PySem.Challenge.RW_dp5034_01
open PySem PySem.W PyProof.Rows
set_option Elab.async false
set_option rowWalk.seconds 0
set_option maxRecDepth 100000
set_option maxHeartbeats 8000000
namespace Mine
open_top hd for PySem.Challenge.rw_dp5034_01
end Mine

namespace Mine
def cp (x : Str) (i : Int) : Nat := x.cps.getD i.toNat 0
theorem item_cp {x : Str} {i : Int} (h0 : 0 ≤ i) (h1 : i < x.length) : Txt.item x i = ⟨#[cp x i]⟩ := item_at h0 h1 rfl
theorem ord_cp {x : Str} {i : Int} (h0 : 0 ≤ i) (h1 : i < x.length) : (Txt.item x i).cps.getD 0 0 = cp x i := by rw [item_cp h0 h1]; rfl

/-- the marks that a backslash may stand ahead of -/
def mark (c : Nat) : Bool := (33 ≤ c && c ≤ 47) || (58 ≤ c && c ≤ 64) || (91 ≤ c && c ≤ 96) || (123 ≤ c && c ≤ 126)

def plainF (x : Str) (i : Int) : Str :=
  if i < x.length then
    if cp x i = 92 ∧ i + 1 < x.length ∧ mark (cp x (i + 1)) = true then ⟨#[cp x (i + 1)]⟩ ++ plainF x (i + 2)
    else ⟨#[cp x i]⟩ ++ plainF x (i + 1)
  else ⟨#[]⟩
termination_by (x.length - i).toNat

def angleF (x : Str) (stop i : Int) : Option Int :=
  if i < stop then
    if cp x i = 10 ∨ cp x i = 60 then none
    else if cp x i = 62 then some i
    else if cp x i = 92 ∧ i + 1 < stop then angleF x stop (i + 2)
    else angleF x stop (i + 1)
  else none
termination_by (stop - i).toNat

def bareF (x : Str) (stop i deep : Int) : Option (Int × Int) :=
  if i < stop then
    if cp x i = 32 ∨ cp x i < 32 ∨ cp x i = 127 then some (i, deep)
    else if cp x i = 92 ∧ i + 1 < stop then
      if cp x (i + 1) = 32 then some (i, deep) else bareF x stop (i + 2) deep
    else if cp x i = 40 then
      if deep + 1 > 32 then none else bareF x stop (i + 1) (deep + 1)
    else if cp x i = 41 then
      if deep = 0 then some (i, deep) else bareF x stop (i + 1) (deep - 1)
    else bareF x stop (i + 1) deep
  else some (i, deep)
termination_by (stop - i).toNat

inductive TRes where
  | no | more | ok (i : Int)

def titleF (x : Str) (stop : Int) (shut : Nat) (i : Int) : TRes :=
  if i < stop then
    if cp x i = shut then .ok i
    else if cp x i = 40 ∧ shut = 41 then .no
    else if cp x i = 92 ∧ i + 1 < stop then titleF x stop shut (i + 2)
    else titleF x stop shut (i + 1)
  else .more
termination_by (stop - i).toNat

theorem plainF_none {x : Str} {i : Int} (h : ¬ i < x.length) : plainF x i = ⟨#[]⟩ := by rw [plainF, if_neg h]
theorem plainF_two {x : Str} {i : Int} (h : i < x.length) (h1 : cp x i = 92) (h2 : i + 1 < x.length) (h3 : mark (cp x (i + 1)) = true) : plainF x i = ⟨#[cp x (i + 1)]⟩ ++ plainF x (i + 2) := by
  rw [plainF, if_pos h, if_pos ⟨h1, h2, h3⟩]
theorem plainF_one {x : Str} {i : Int} (h : i < x.length) (h1 : ¬ (cp x i = 92 ∧ i + 1 < x.length ∧ mark (cp x (i + 1)) = true)) : plainF x i = ⟨#[cp x i]⟩ ++ plainF x (i + 1) := by
  rw [plainF, if_pos h, if_neg h1]

theorem str_ext {a b : Str} (h : a.cps.toList = b.cps.toList) : a = b := by
  obtain ⟨a⟩ := a; obtain ⟨b⟩ := b
  exact congrArg Str.mk (Array.toList_inj.mp h)
theorem cps_app (a b : Str) : (a ++ b).cps.toList = a.cps.toList ++ b.cps.toList := by
  show (a.cps ++ b.cps).toList = _
  simp
theorem app_assoc (a b c : Str) : (a ++ b) ++ c = a ++ (b ++ c) := str_ext (by simp only [cps_app, List.append_assoc])
theorem app_nil (a : Str) : a ++ ⟨#[]⟩ = a := str_ext (by simp [cps_app])
theorem nil_app (a : Str) : (⟨#[]⟩ : Str) ++ a = a := str_ext (by simp [cps_app])

theorem cp_some {x : Str} {i : Int} (h0 : 0 ≤ i) (h1 : i < x.length) : x.cps.toList[i.toNat]? = some (cp x i) := by
  have h : i.toNat < x.cps.size := by have : x.length = x.cps.size := rfl; omega
  unfold cp
  simp [Array.getElem?_toList, h, Array.getD]

/-- without a backslash nothing is taken off -/
theorem plainF_same {x : Str} (hn : 92 ∉ x.cps.toList) : ∀ (n : Nat) (i : Int), 0 ≤ i → (x.length : Int) - i ≤ n → (plainF x i).cps.toList = x.cps.toList.drop i.toNat := by
  intro n
  have hl : x.length = x.cps.toList.length := by simp [Str.length]
  induction n with
  | zero =>
    intro i h0 h
    rw [plainF_none (by omega), List.drop_eq_nil_of_le (by omega)]
  | succ n ih =>
    intro i h0 h
    by_cases hi : i < x.length
    · have hs := cp_some h0 hi
      have hm : cp x i ∈ x.cps.toList := List.mem_of_getElem? hs
      have hk : i.toNat < x.cps.toList.length := by omega
      rw [plainF_one hi (fun h => hn (h.1 ▸ hm)), cps_app, ih (i + 1) (by omega) (by omega), List.drop_eq_getElem_cons hk]
      have e : x.cps.toList[i.toNat] = cp x i := by rw [List.getElem?_eq_getElem hk] at hs; exact Option.some.inj hs
      rw [e, show (i + 1).toNat = i.toNat + 1 by omega]
      rfl
    · rw [plainF_none hi, List.drop_eq_nil_of_le (by omega)]
theorem plainF_no {x : Str} (hn : 92 ∉ x.cps.toList) : plainF x 0 = x :=
  str_ext (by rw [plainF_same hn x.length 0 (by omega) (by omega)]; rfl)
end Mine

namespace Mine
def Pl (x : Str) (i : Int) (out : Str) : Prop := out ++ plainF x i = plainF x 0
theorem len_app (a b : Str) : (a ++ b).length = a.length + b.length := by
  show (a.cps ++ b.cps).size = _
  rw [Array.size_append]; rfl
abbrev PlInv (x : Str) (i : Int) (out : Str) : Prop := 0 ≤ i ∧ i ≤ x.length ∧ out.length ≤ i ∧ Pl x i out
theorem bs_is : Str.ofString "\\" = ⟨#[92]⟩ := by decide +kernel
theorem item_is {x : Str} {i : Int} {c : Nat} {t : Str} (ht : t = ⟨#[c]⟩) (h0 : 0 ≤ i) (h1 : i < x.length) (h : (Txt.item x i == t) = true) : cp x i = c := by
  rw [item_cp h0 h1, ht] at h
  have := beq_iff_eq.mp h
  simpa using this
theorem item_isnt {x : Str} {i : Int} {c : Nat} {t : Str} (ht : t = ⟨#[c]⟩) (h0 : 0 ≤ i) (h1 : i < x.length) (h : (Txt.item x i == t) = false) : cp x i ≠ c := fun e => by
  rw [item_cp h0 h1, ht, e] at h
  simp at h
theorem marks_are : (Str.ofString "!\"#$%&'()*+,-./:;<=>?\x40[\\]^_`{|}~").cps.toList = (List.range' 33 15 ++ List.range' 58 7 ++ List.range' 91 6 ++ List.range' 123 4) := by decide +kernel
theorem mark_iff (c : Nat) : mark c = true ↔ c ∈ (List.range' 33 15 ++ List.range' 58 7 ++ List.range' 91 6 ++ List.range' 123 4) := by
  simp only [mark, List.mem_append, List.mem_range'_1, Bool.or_eq_true, Bool.and_eq_true, decide_eq_true_eq]
  omega
theorem in_marks {x : Str} {i : Int} (h0 : 0 ≤ i) (h1 : i < x.length) :
    (Builtin.Str.occurrences (Str.ofString "!\"#$%&'()*+,-./:;<=>?\x40[\\]^_`{|}~") (Txt.item x i) 0 (Str.ofString "!\"#$%&'()*+,-./:;<=>?\x40[\\]^_`{|}~").length 1).isEmpty = !mark (cp x i) := by
  rw [item_cp h0 h1, empty_one, marks_are]
  congr 1
  cases h : mark (cp x i) with
  | true => exact decide_eq_true ((mark_iff _).mp h)
  | false => exact decide_eq_false fun e => by rw [(mark_iff _).mpr e] at h; cases h

theorem pl_start {x : Str} : PlInv x 0 (Str.ofString "") := ⟨Int.le_refl _, by omega, by show ((Str.ofString "").length : Int) ≤ 0; decide +kernel, by show Str.ofString "" ++ plainF x 0 = _; rw [show Str.ofString "" = (⟨#[]⟩ : Str) by decide +kernel, nil_app]⟩
theorem pl_one {x out : Str} {i : Int} (h0 : 0 ≤ i) (h1 : i < x.length) (hl : out.length ≤ i) (hp : Pl x i out) (hn : ¬ (cp x i = 92 ∧ i + 1 < x.length ∧ mark (cp x (i + 1)) = true)) : PlInv x (i + 1) (out ++ Txt.item x i) :=
  ⟨by omega, by omega, by rw [len_app, len_item]; omega, by unfold Pl at *; rw [app_assoc, item_cp h0 h1, ← plainF_one h1 hn, hp]⟩
theorem pl_two {x out : Str} {i : Int} (h0 : 0 ≤ i) (h1 : i < x.length) (hl : out.length ≤ i) (hp : Pl x i out) (hb : cp x i = 92) (h2 : i + 1 < x.length) (hm : mark (cp x (i + 1)) = true) : PlInv x (i + 1 + 1) (out ++ Txt.item x (i + 1)) :=
  ⟨by omega, by omega, by rw [len_app, len_item]; omega, by unfold Pl at *; rw [app_assoc, item_cp (by omega) h2, show i + 1 + 1 = i + 2 by omega, ← plainF_two h1 hb h2 hm, hp]⟩
theorem pl_a {x out : Str} {i : Int} (h0 : 0 ≤ i) (h1 : i < x.length) (hl : out.length ≤ i) (hp : Pl x i out) (hb : (Txt.item x i == Str.ofString "\\") = false) : PlInv x (i + 1) (out ++ Txt.item x i) :=
  pl_one h0 h1 hl hp fun h => item_isnt bs_is h0 h1 hb h.1
theorem pl_b {x out : Str} {i : Int} (h0 : 0 ≤ i) (h1 : i < x.length) (hl : out.length ≤ i) (hp : Pl x i out) (h2 : ¬ i + 1 < x.length) : PlInv x (i + 1) (out ++ Txt.item x i) :=
  pl_one h0 h1 hl hp fun h => h2 h.2.1
theorem pl_c {x out : Str} {i : Int} (h0 : 0 ≤ i) (h1 : i < x.length) (hl : out.length ≤ i) (hp : Pl x i out) (h2 : i + 1 < x.length)
    (hm : (Builtin.Str.occurrences (Str.ofString "!\"#$%&'()*+,-./:;<=>?\x40[\\]^_`{|}~") (Txt.item x (i + 1)) 0 (Str.ofString "!\"#$%&'()*+,-./:;<=>?\x40[\\]^_`{|}~").length 1).isEmpty = true) : PlInv x (i + 1) (out ++ Txt.item x i) :=
  pl_one h0 h1 hl hp fun h => by rw [in_marks (by omega) h2, h.2.2] at hm; cases hm
theorem pl_d {x out : Str} {i : Int} (h0 : 0 ≤ i) (h1 : i < x.length) (hl : out.length ≤ i) (hp : Pl x i out) (hb : (Txt.item x i == Str.ofString "\\") = true) (h2 : i + 1 < x.length)
    (hm : (Builtin.Str.occurrences (Str.ofString "!\"#$%&'()*+,-./:;<=>?\x40[\\]^_`{|}~") (Txt.item x (i + 1)) 0 (Str.ofString "!\"#$%&'()*+,-./:;<=>?\x40[\\]^_`{|}~").length 1).isEmpty = false) : PlInv x (i + 1 + 1) (out ++ Txt.item x (i + 1)) :=
  pl_two h0 h1 hl hp (item_is bs_is h0 h1 hb) h2 (by rw [in_marks (by omega) h2] at hm; simpa using hm)
theorem pl_c' {x out : Str} {i : Int} (h0 : 0 ≤ i) (h1 : i < x.length) (hl : out.length ≤ i) (hp : Pl x i out) (h2 : i + 1 < x.length)
    (hm : mark ((Txt.item x (i + 1)).cps.getD 0 0) = false) : PlInv x (i + 1) (out ++ Txt.item x i) :=
  pl_one h0 h1 hl hp fun h => by rw [ord_cp (by omega) h2, h.2.2] at hm; cases hm
theorem pl_d' {x out : Str} {i : Int} (h0 : 0 ≤ i) (h1 : i < x.length) (hl : out.length ≤ i) (hp : Pl x i out) (hb : (Txt.item x i == Str.ofString "\\") = true) (h2 : i + 1 < x.length)
    (hm : mark ((Txt.item x (i + 1)).cps.getD 0 0) = true) : PlInv x (i + 1 + 1) (out ++ Txt.item x (i + 1)) :=
  pl_two h0 h1 hl hp (item_is bs_is h0 h1 hb) h2 (by rw [ord_cp (by omega) h2] at hm; exact hm)
theorem pl_end {x out : Str} {i : Int} (h1 : ¬ i < x.length) (hp : Pl x i out) : out = plainF x 0 := by
  unfold Pl at hp; rw [plainF_none h1, app_nil] at hp; exact hp
theorem pl_free {x : Str} (h : (Builtin.Str.occurrences x (Str.ofString "\\") 0 x.length 1).isEmpty = true) : x = plainF x 0 := by
  rw [bs_is, empty_one] at h
  exact (plainF_no fun m => by rw [decide_eq_true m] at h; cases h).symm

/-! what the walks of the address's and the title's loops say -/
theorem angle_end {x : Str} {stop i : Int} (h : ¬ i < stop) : angleF x stop i = none := by rw [angleF, if_neg h]
theorem angle_no {x : Str} {stop i : Int} (h : i < stop) (hc : cp x i = 10 ∨ cp x i = 60) : angleF x stop i = none := by rw [angleF, if_pos h, if_pos hc]
theorem angle_shut {x : Str} {stop i : Int} (h : i < stop) (hc : cp x i = 62) : angleF x stop i = some i := by rw [angleF, if_pos h, if_neg (by omega), if_pos hc]
theorem angle_two {x : Str} {stop i : Int} (h : i < stop) (hc : cp x i = 92) (h2 : i + 1 < stop) : angleF x stop i = angleF x stop (i + 2) := by rw [angleF, if_pos h, if_neg (by omega), if_neg (by omega), if_pos ⟨hc, h2⟩]
theorem angle_one {x : Str} {stop i : Int} (h : i < stop) (h1 : ¬ (cp x i = 10 ∨ cp x i = 60)) (h3 : cp x i ≠ 62) (hc : ¬ (cp x i = 92 ∧ i + 1 < stop)) : angleF x stop i = angleF x stop (i + 1) := by
  rw [angleF, if_pos h, if_neg h1, if_neg h3, if_neg hc]
end Mine

namespace Mine
theorem nl_is : Str.ofString "\n" = ⟨#[10]⟩ := by decide +kernel
theorem lt_is : Str.ofString "<" = ⟨#[60]⟩ := by decide +kernel
theorem gt_is : Str.ofString ">" = ⟨#[62]⟩ := by decide +kernel
abbrev AInv (x : Str) (stop i j : Int) : Prop := i + 1 ≤ j ∧ (j ≤ stop ∨ j = i + 1) ∧ angleF x stop j = angleF x stop (i + 1)
section
variable {x : Str} {stop i j : Int}
theorem an_start : AInv x stop i (i + 1) := ⟨Int.le_refl _, .inr rfl, rfl⟩
theorem an_two (h0 : 0 ≤ i) (h3 : stop ≤ x.length) (h1 : i + 1 ≤ j) (hj : j < stop) (e : angleF x stop j = angleF x stop (i + 1)) (hc : (Txt.item x j == Str.ofString "\\") = true) (h2 : j + 1 < stop) : AInv x stop i (j + 2) :=
  ⟨by omega, .inl (by omega), by rw [← e, angle_two hj (item_is bs_is (by omega) (by omega) hc) h2]⟩
theorem an_one (h0 : 0 ≤ i) (h3 : stop ≤ x.length) (h1 : i + 1 ≤ j) (hj : j < stop) (e : angleF x stop j = angleF x stop (i + 1)) (c1 : (Txt.item x j == Str.ofString "\n") = false) (c2 : (Txt.item x j == Str.ofString "<") = false) (c3 : (Txt.item x j == Str.ofString ">") = false)
    (hc : ¬ (cp x j = 92 ∧ j + 1 < stop)) : AInv x stop i (j + 1) :=
  ⟨by omega, .inl (by omega), by rw [← e, ← angle_one hj (fun h => h.elim (item_isnt nl_is (by omega) (by omega) c1) (item_isnt lt_is (by omega) (by omega) c2)) (item_isnt gt_is (by omega) (by omega) c3) hc]⟩
theorem an_oneA (h0 : 0 ≤ i) (h3 : stop ≤ x.length) (h1 : i + 1 ≤ j) (hj : j < stop) (e : angleF x stop j = angleF x stop (i + 1)) (c1 : (Txt.item x j == Str.ofString "\n") = false) (c2 : (Txt.item x j == Str.ofString "<") = false) (c3 : (Txt.item x j == Str.ofString ">") = false)
    (hc : ¬ j + 1 < stop) : AInv x stop i (j + 1) := an_one h0 h3 h1 hj e c1 c2 c3 fun h => hc h.2
theorem an_oneB (h0 : 0 ≤ i) (h3 : stop ≤ x.length) (h1 : i + 1 ≤ j) (hj : j < stop) (e : angleF x stop j = angleF x stop (i + 1)) (c1 : (Txt.item x j == Str.ofString "\n") = false) (c2 : (Txt.item x j == Str.ofString "<") = false) (c3 : (Txt.item x j == Str.ofString ">") = false)
    (hc : (Txt.item x j == Str.ofString "\\") = false) : AInv x stop i (j + 1) := an_one h0 h3 h1 hj e c1 c2 c3 fun h => item_isnt bs_is (by omega) (by omega) hc h.1
theorem an_nl (h0 : 0 ≤ i) (h3 : stop ≤ x.length) (h1 : i + 1 ≤ j) (hj : j < stop) (e : angleF x stop j = angleF x stop (i + 1)) (c1 : (Txt.item x j == Str.ofString "\n") = true) : angleF x stop (i + 1) = none := by
  rw [← e, angle_no hj (.inl (item_is nl_is (by omega) (by omega) c1))]
theorem an_lt (h0 : 0 ≤ i) (h3 : stop ≤ x.length) (h1 : i + 1 ≤ j) (hj : j < stop) (e : angleF x stop j = angleF x stop (i + 1)) (c1 : (Txt.item x j == Str.ofString "<") = true) : angleF x stop (i + 1) = none := by
  rw [← e, angle_no hj (.inr (item_is lt_is (by omega) (by omega) c1))]
theorem an_gt (h0 : 0 ≤ i) (h3 : stop ≤ x.length) (h1 : i + 1 ≤ j) (hj : j < stop) (e : angleF x stop j = angleF x stop (i + 1)) (c1 : (Txt.item x j == Str.ofString ">") = true) : angleF x stop (i + 1) = some j := by
  rw [← e, angle_shut hj (item_is gt_is (by omega) (by omega) c1)]
theorem an_end (hj : ¬ j < stop) (e : angleF x stop j = angleF x stop (i + 1)) : angleF x stop (i + 1) = none := by rw [← e, angle_end hj]
end

/-- nothing, or a pair: what was found, taken plain, and the place behind it -/
def PairR (found : Option (Str × Int)) (v : Value) (nx : List (Addr × Obj)) : Prop := match found with
  | none => v = .none ∧ nx = []
  | some (y, p) => ∃ r t1 t2, v = .ref r ∧ nx = [(r, listOf #[.str y t1, .int p t2] 0)]
theorem pair_none {f : Option (Str × Int)} (h : f = none) : PairR f .none [] := by rw [h]; exact ⟨rfl, rfl⟩
theorem pair_some {f : Option (Str × Int)} {y : Str} {p : Int} {r : Addr} {t1 t2 : Tok} (h : f = some (y, p)) : PairR f (.ref r) [(r, listOf #[.str y t1, .int p t2] 0)] := by rw [h]; exact ⟨r, t1, t2, rfl, rfl⟩

def angleD (x : Str) (i stop : Int) : Option (Str × Int) := (angleF x stop (i + 1)).map fun p => (plainF (Txt.slice x (some (i + 1)) (some p)) 0, p + 1)
theorem angleD_none {x : Str} {i stop : Int} (h : angleF x stop (i + 1) = none) : angleD x i stop = none := by unfold angleD; rw [h]; rfl
theorem angleD_some {x : Str} {i stop p : Int} (h : angleF x stop (i + 1) = some p) : angleD x i stop = some (plainF (Txt.slice x (some (i + 1)) (some p)) 0, p + 1) := by unfold angleD; rw [h]; rfl
end Mine

namespace Mine
abbrev BInv (x : Str) (stop i j deep : Int) : Prop := i ≤ j ∧ j ≤ stop ∧ 0 ≤ deep ∧ deep ≤ 32 ∧ bareF x stop j deep = bareF x stop i 0
def bareD (x : Str) (i stop : Int) : Option (Str × Int) := match bareF x stop i 0 with
  | none => none
  | some (p, d) => if p = i ∨ d ≠ 0 then none else some (plainF (Txt.slice x (some i) (some p)) 0, p)

section
variable {x : Str} {stop j d : Int}
theorem bare_end (h : ¬ j < stop) : bareF x stop j d = some (j, d) := by rw [bareF, if_neg h]
theorem bare_blank (h : j < stop) (hc : cp x j = 32 ∨ cp x j < 32 ∨ cp x j = 127) : bareF x stop j d = some (j, d) := by rw [bareF, if_pos h, if_pos hc]
theorem bare_slash (h : j < stop) (hc : cp x j = 92) (h2 : j + 1 < stop) (h3 : cp x (j + 1) = 32) : bareF x stop j d = some (j, d) := by
  rw [bareF, if_pos h, if_neg (by omega), if_pos ⟨hc, h2⟩, if_pos h3]
theorem bare_two (h : j < stop) (hc : cp x j = 92) (h2 : j + 1 < stop) (h3 : cp x (j + 1) ≠ 32) : bareF x stop j d = bareF x stop (j + 2) d := by
  rw [bareF, if_pos h, if_neg (by omega), if_pos ⟨hc, h2⟩, if_neg h3]
theorem bare_over (h : j < stop) (hc : cp x j = 40) (hd : 32 < d + 1) : bareF x stop j d = none := by
  rw [bareF, if_pos h, if_neg (by omega), if_neg (by omega), if_pos hc, if_pos (by omega)]
theorem bare_open (h : j < stop) (hc : cp x j = 40) (hd : ¬ 32 < d + 1) : bareF x stop j d = bareF x stop (j + 1) (d + 1) := by
  rw [bareF, if_pos h, if_neg (by omega), if_neg (by omega), if_pos hc, if_neg (by omega)]
theorem bare_shut0 (h : j < stop) (hc : cp x j = 41) (hd : d = 0) : bareF x stop j d = some (j, d) := by
  rw [bareF, if_pos h, if_neg (by omega), if_neg (by omega), if_neg (by omega), if_pos hc, if_pos hd]
theorem bare_shut (h : j < stop) (hc : cp x j = 41) (hd : d ≠ 0) : bareF x stop j d = bareF x stop (j + 1) (d - 1) := by
  rw [bareF, if_pos h, if_neg (by omega), if_neg (by omega), if_neg (by omega), if_pos hc, if_neg hd]
theorem bare_one (h : j < stop) (hb : ¬ (cp x j = 32 ∨ cp x j < 32 ∨ cp x j = 127)) (hs : ¬ (cp x j = 92 ∧ j + 1 < stop)) (h1 : cp x j ≠ 40) (h2 : cp x j ≠ 41) : bareF x stop j d = bareF x stop (j + 1) d := by
  rw [bareF, if_pos h, if_neg hb, if_neg hs, if_neg h1, if_neg h2]
end

theorem sp_is : Str.ofString " " = ⟨#[32]⟩ := by decide +kernel
theorem del_is : Str.ofString "\x7f" = ⟨#[127]⟩ := by decide +kernel
theorem op_is : Str.ofString "(" = ⟨#[40]⟩ := by decide +kernel
theorem sh_is : Str.ofString ")" = ⟨#[41]⟩ := by decide +kernel
theorem less_sp {x : Str} {j : Int} (h0 : 0 ≤ j) (h1 : j < x.length) : ((Txt.item x j).cps.toList < (Str.ofString " ").cps.toList) ↔ cp x j < 32 := by
  rw [item_cp h0 h1, sp_is]
  show ([cp x j] : List Nat) < [32] ↔ _
  simp [List.cons_lt_cons_iff]

section
variable {x : Str} {stop i j d : Int}
theorem br_end (e : bareF x stop j d = bareF x stop i 0) (h : ¬ j < stop) : bareF x stop i 0 = some (j, d) := by rw [← e, bare_end h]
theorem br_sp (e : bareF x stop j d = bareF x stop i 0) (h0 : 0 ≤ i) (h3 : stop ≤ x.length) (h1 : i ≤ j) (h : j < stop) (c : (Txt.item x j == Str.ofString " ") = true) : bareF x stop i 0 = some (j, d) := by
  rw [← e, bare_blank h (.inl (item_is sp_is (by omega) (by omega) c))]
theorem br_lt (e : bareF x stop j d = bareF x stop i 0) (h0 : 0 ≤ i) (h3 : stop ≤ x.length) (h1 : i ≤ j) (h : j < stop) (c : (Txt.item x j).cps.toList < (Str.ofString " ").cps.toList) : bareF x stop i 0 = some (j, d) := by
  rw [← e, bare_blank h (.inr (.inl ((less_sp (by omega) (by omega)).mp c)))]
theorem br_del (e : bareF x stop j d = bareF x stop i 0) (h0 : 0 ≤ i) (h3 : stop ≤ x.length) (h1 : i ≤ j) (h : j < stop) (c : (Txt.item x j == Str.ofString "\x7f") = true) : bareF x stop i 0 = some (j, d) := by
  rw [← e, bare_blank h (.inr (.inr (item_is del_is (by omega) (by omega) c)))]
theorem br_slash (e : bareF x stop j d = bareF x stop i 0) (h0 : 0 ≤ i) (h3 : stop ≤ x.length) (h1 : i ≤ j) (h : j < stop) (c : (Txt.item x j == Str.ofString "\\") = true) (h2 : j + 1 < stop) (c2 : (Txt.item x (j + 1) == Str.ofString " ") = true) : bareF x stop i 0 = some (j, d) := by
  rw [← e, bare_slash h (item_is bs_is (by omega) (by omega) c) h2 (item_is sp_is (by omega) (by omega) c2)]
theorem br_shut (e : bareF x stop j d = bareF x stop i 0) (h0 : 0 ≤ i) (h3 : stop ≤ x.length) (h1 : i ≤ j) (h : j < stop) (c : (Txt.item x j == Str.ofString ")") = true) (hd : d = 0) : bareF x stop i 0 = some (j, d) := by
  rw [← e, bare_shut0 h (item_is sh_is (by omega) (by omega) c) hd]
theorem br_over (e : bareF x stop j d = bareF x stop i 0) (h0 : 0 ≤ i) (h3 : stop ≤ x.length) (h1 : i ≤ j) (h : j < stop) (c : (Txt.item x j == Str.ofString "(") = true) (hd : 32 < d + 1) : bareF x stop i 0 = none := by
  rw [← e, bare_over h (item_is op_is (by omega) (by omega) c) hd]

theorem ba_start (h0 : i ≤ stop) : BInv x stop i i 0 := ⟨Int.le_refl _, h0, by omega, by omega, rfl⟩
theorem ba_two (e : bareF x stop j d = bareF x stop i 0) (h0 : 0 ≤ i) (h3 : stop ≤ x.length) (h1 : i ≤ j) (h : j < stop) (d0 : 0 ≤ d) (d1 : d ≤ 32) (c : (Txt.item x j == Str.ofString "\\") = true) (h2 : j + 1 < stop) (c2 : (Txt.item x (j + 1) == Str.ofString " ") = false) : BInv x stop i (j + 2) d :=
  ⟨by omega, by omega, d0, d1, by rw [← e, ← bare_two h (item_is bs_is (by omega) (by omega) c) h2 (item_isnt sp_is (by omega) (by omega) c2)]⟩
theorem ba_open (e : bareF x stop j d = bareF x stop i 0) (h0 : 0 ≤ i) (h3 : stop ≤ x.length) (h1 : i ≤ j) (h : j < stop) (d0 : 0 ≤ d) (c : (Txt.item x j == Str.ofString "(") = true) (hd : ¬ 32 < d + 1) : BInv x stop i (j + 1) (d + 1) :=
  ⟨by omega, by omega, by omega, by omega, by rw [← e, ← bare_open h (item_is op_is (by omega) (by omega) c) hd]⟩
theorem ba_both (c : (Txt.item x j == Str.ofString "(") = true) (c2 : (Txt.item x j == Str.ofString ")") = true) (h : j < stop) (h3 : stop ≤ x.length) (h1 : i ≤ j) (h0 : 0 ≤ i) : False := by
  have := item_is op_is (by omega) (by omega) c
  have := item_is sh_is (by omega) (by omega) c2
  omega
theorem ba_shut (e : bareF x stop j d = bareF x stop i 0) (h0 : 0 ≤ i) (h3 : stop ≤ x.length) (h1 : i ≤ j) (h : j < stop) (d0 : 0 ≤ d) (d1 : d ≤ 32) (c : (Txt.item x j == Str.ofString ")") = true) (hd : d ≠ 0) : BInv x stop i (j + 1) (d - 1) :=
  ⟨by omega, by omega, by omega, by omega, by rw [← e, ← bare_shut h (item_is sh_is (by omega) (by omega) c) hd]⟩
theorem ba_one (e : bareF x stop j d = bareF x stop i 0) (h0 : 0 ≤ i) (h3 : stop ≤ x.length) (h1 : i ≤ j) (h : j < stop) (d0 : 0 ≤ d) (d1 : d ≤ 32) (c1 : (Txt.item x j == Str.ofString " ") = false) (c2 : ¬ (Txt.item x j).cps.toList < (Str.ofString " ").cps.toList) (c3 : (Txt.item x j == Str.ofString "\x7f") = false)
    (c4 : (Txt.item x j == Str.ofString "\\") = false ∨ ¬ j + 1 < stop) (c5 : (Txt.item x j == Str.ofString "(") = false) (c6 : (Txt.item x j == Str.ofString ")") = false) : BInv x stop i (j + 1) d :=
  ⟨by omega, by omega, d0, d1, by
    rw [← e, ← bare_one h (fun q => q.elim (item_isnt sp_is (by omega) (by omega) c1) fun q => q.elim (fun q => c2 ((less_sp (by omega) (by omega)).mpr q)) (item_isnt del_is (by omega) (by omega) c3))
      (fun q => c4.elim (fun r => item_isnt bs_is (by omega) (by omega) r q.1) fun r => r q.2) (item_isnt op_is (by omega) (by omega) c5) (item_isnt sh_is (by omega) (by omega) c6)]⟩

theorem bd_over (e : bareF x stop i 0 = none) : bareD x i stop = none := by unfold bareD; rw [e]
theorem bd_same (e : bareF x stop i 0 = some (j, d)) (h : j = i) : bareD x i stop = none := by unfold bareD; rw [e]; exact if_pos (.inl h)
theorem bd_open (e : bareF x stop i 0 = some (j, d)) (h : d ≠ 0) : bareD x i stop = none := by unfold bareD; rw [e]; exact if_pos (.inr h)
theorem bd_some (e : bareF x stop i 0 = some (j, d)) (h : j ≠ i) (hd : d = 0) : bareD x i stop = some (plainF (Txt.slice x (some i) (some j)) 0, j) := by
  unfold bareD; rw [e]; exact if_neg fun q => q.elim h fun q => q hd
end
end Mine

namespace Mine
def shutF (x : Str) (i : Int) : Nat := if cp x i = 40 then 41 else cp x i
abbrev TInv (x : Str) (stop i j : Int) : Prop := i + 1 ≤ j ∧ (j ≤ stop) ∧ titleF x stop (shutF x i) j = titleF x stop (shutF x i) (i + 1)
inductive TD where
  | no | more (y : Str) | ok (y : Str) (p : Int)
def titleD (x : Str) (i stop : Int) : TD :=
  if i < stop ∧ (cp x i = 34 ∨ cp x i = 39 ∨ cp x i = 40) then match titleF x stop (shutF x i) (i + 1) with
    | .no => .no
    | .ok p => .ok (plainF (Txt.slice x (some (i + 1)) (some p)) 0) (p + 1)
    | .more => .more (plainF (Txt.slice x (some (i + 1)) (some stop)) 0)
  else .no
/-- the list that tells it -/
def ToldR (d : TD) (v : Value) (nx : List (Addr × Obj)) : Prop := match d with
  | .no => ∃ r t, v = .ref r ∧ nx = [(r, listOf #[.str (Str.ofString "no") t] 0)]
  | .more y => ∃ r t t1, v = .ref r ∧ nx = [(r, listOf #[.str (Str.ofString "more") t, .str y t1] 0)]
  | .ok y p => ∃ r t t1 t2, v = .ref r ∧ nx = [(r, listOf #[.str (Str.ofString "ok") t, .str y t1, .int p t2] 0)]
theorem told_no {d : TD} {r : Addr} {t : Tok} (h : d = .no) : ToldR d (.ref r) [(r, listOf #[.str (Str.ofString "no") t] 0)] := by rw [h]; exact ⟨r, t, rfl, rfl⟩
theorem told_more {d : TD} {y : Str} {r : Addr} {t t1 : Tok} (h : d = .more y) : ToldR d (.ref r) [(r, listOf #[.str (Str.ofString "more") t, .str y t1] 0)] := by rw [h]; exact ⟨r, t, t1, rfl, rfl⟩
theorem told_ok {d : TD} {y : Str} {p : Int} {r : Addr} {t t1 t2 : Tok} (h : d = .ok y p) : ToldR d (.ref r) [(r, listOf #[.str (Str.ofString "ok") t, .str y t1, .int p t2] 0)] := by rw [h]; exact ⟨r, t, t1, t2, rfl, rfl⟩

section
variable {x : Str} {stop i j : Int}
theorem title_end {sh : Nat} (h : ¬ j < stop) : titleF x stop sh j = .more := by rw [titleF, if_neg h]
theorem title_ok {sh : Nat} (h : j < stop) (e : cp x j = sh) : titleF x stop sh j = .ok j := by rw [titleF, if_pos h, if_pos e]
theorem title_no {sh : Nat} (h : j < stop) (n : cp x j ≠ sh) (c : cp x j = 40 ∧ sh = 41) : titleF x stop sh j = .no := by rw [titleF, if_pos h, if_neg n, if_pos c]
theorem title_two {sh : Nat} (h : j < stop) (n : cp x j ≠ sh) (c : ¬ (cp x j = 40 ∧ sh = 41)) (b : cp x j = 92 ∧ j + 1 < stop) : titleF x stop sh j = titleF x stop sh (j + 2) := by rw [titleF, if_pos h, if_neg n, if_neg c, if_pos b]
theorem title_one {sh : Nat} (h : j < stop) (n : cp x j ≠ sh) (c : ¬ (cp x j = 40 ∧ sh = 41)) (b : ¬ (cp x j = 92 ∧ j + 1 < stop)) : titleF x stop sh j = titleF x stop sh (j + 1) := by rw [titleF, if_pos h, if_neg n, if_neg c, if_neg b]
end

theorem q2_is : Str.ofString "\"" = ⟨#[34]⟩ := by decide +kernel
theorem q1_is : Str.ofString "'" = ⟨#[39]⟩ := by decide +kernel
theorem one_eq (a b : Nat) : ((⟨#[a]⟩ : Str) == ⟨#[b]⟩) = decide (a = b) := by
  by_cases h : a = b
  · subst h; simp
  · rw [decide_eq_false h]
    exact beq_eq_false_iff_ne.mpr fun e => h (by simpa using e)
theorem any_open {x : Str} {i : Int} (h0 : 0 ≤ i) (h1 : i < x.length) : ([Str.ofString "\"", Str.ofString "'", Str.ofString "("].any fun y => y == Txt.item x i) = decide (cp x i = 34 ∨ cp x i = 39 ∨ cp x i = 40) := by
  rw [item_cp h0 h1, q2_is, q1_is, op_is]
  simp only [List.any_cons, List.any_nil, one_eq, Bool.or_false]
  rw [Bool.eq_iff_iff]
  simp only [Bool.or_eq_true, decide_eq_true_eq]
  omega

section
variable {x : Str} {stop i j : Int}
theorem sh_paren (o : (Txt.item x i == Str.ofString "(") = true) (h0 : 0 ≤ i) (h1 : i < x.length) : shutF x i = 41 := by unfold shutF; rw [if_pos (item_is op_is h0 h1 o)]
theorem sh_self (o : (Txt.item x i == Str.ofString "(") = false) (h0 : 0 ≤ i) (h1 : i < x.length) : shutF x i = cp x i := by unfold shutF; rw [if_neg (item_isnt op_is h0 h1 o)]
theorem eqA (o : (Txt.item x i == Str.ofString "(") = true) (c : (Txt.item x j == Str.ofString ")") = true) (h0 : 0 ≤ i) (h1 : i < x.length) (hj : i + 1 ≤ j) (h : j < stop) (h3 : stop ≤ x.length) : cp x j = shutF x i := by
  rw [sh_paren o h0 h1]; exact item_is sh_is (by omega) (by omega) c
theorem neA (o : (Txt.item x i == Str.ofString "(") = true) (c : (Txt.item x j == Str.ofString ")") = false) (h0 : 0 ≤ i) (h1 : i < x.length) (hj : i + 1 ≤ j) (h : j < stop) (h3 : stop ≤ x.length) : cp x j ≠ shutF x i := by
  rw [sh_paren o h0 h1]; exact item_isnt sh_is (by omega) (by omega) c
theorem eqB (o : (Txt.item x i == Str.ofString "(") = false) (c : (Txt.item x j == Txt.item x i) = true) (h0 : 0 ≤ i) (h1 : i < x.length) (hj : i + 1 ≤ j) (h : j < stop) (h3 : stop ≤ x.length) : cp x j = shutF x i := by
  rw [sh_self o h0 h1]; exact item_is (item_cp h0 h1) (by omega) (by omega) c
theorem neB (o : (Txt.item x i == Str.ofString "(") = false) (c : (Txt.item x j == Txt.item x i) = false) (h0 : 0 ≤ i) (h1 : i < x.length) (hj : i + 1 ≤ j) (h : j < stop) (h3 : stop ≤ x.length) : cp x j ≠ shutF x i := by
  rw [sh_self o h0 h1]; exact item_isnt (item_cp h0 h1) (by omega) (by omega) c
theorem noC (c : (Txt.item x j == Str.ofString "(") = false) (h0 : 0 ≤ i) (hj : i + 1 ≤ j) (h : j < stop) (h3 : stop ≤ x.length) : ¬ (cp x j = 40 ∧ shutF x i = 41) := fun q => item_isnt op_is (by omega) (by omega) c q.1
theorem noI (c : (Txt.item x i == Str.ofString ")") = false) (o : (Txt.item x i == Str.ofString "(") = false) (h0 : 0 ≤ i) (h1 : i < x.length) : ¬ (cp x j = 40 ∧ shutF x i = 41) := fun q => item_isnt sh_is h0 h1 c ((sh_self o h0 h1).symm.trans q.2)
theorem yesA (o : (Txt.item x i == Str.ofString "(") = true) (c : (Txt.item x j == Str.ofString "(") = true) (h0 : 0 ≤ i) (h1 : i < x.length) (hj : i + 1 ≤ j) (h : j < stop) (h3 : stop ≤ x.length) : cp x j = 40 ∧ shutF x i = 41 :=
  ⟨item_is op_is (by omega) (by omega) c, sh_paren o h0 h1⟩
theorem yesB (o : (Txt.item x i == Str.ofString "(") = false) (c : (Txt.item x j == Str.ofString "(") = true) (c2 : (Txt.item x i == Str.ofString ")") = true) (h0 : 0 ≤ i) (h1 : i < x.length) (hj : i + 1 ≤ j) (h : j < stop) (h3 : stop ≤ x.length) : cp x j = 40 ∧ shutF x i = 41 :=
  ⟨item_is op_is (by omega) (by omega) c, (sh_self o h0 h1).trans (item_is sh_is h0 h1 c2)⟩
theorem ti_start (h : ¬ stop ≤ i) : TInv x stop i (i + 1) := ⟨Int.le_refl _, by omega, rfl⟩
theorem ti_two (e : titleF x stop (shutF x i) j = titleF x stop (shutF x i) (i + 1)) (h : j < stop) (hj : i + 1 ≤ j) (n : cp x j ≠ shutF x i) (c : ¬ (cp x j = 40 ∧ shutF x i = 41)) (h0 : 0 ≤ i) (h3 : stop ≤ x.length) (b : (Txt.item x j == Str.ofString "\\") = true) (h2 : j + 1 < stop) : TInv x stop i (j + 2) :=
  ⟨by omega, by omega, by rw [← e, title_two h n c ⟨item_is bs_is (by omega) (by omega) b, h2⟩]⟩
theorem ti_one (e : titleF x stop (shutF x i) j = titleF x stop (shutF x i) (i + 1)) (h : j < stop) (hj : i + 1 ≤ j) (n : cp x j ≠ shutF x i) (c : ¬ (cp x j = 40 ∧ shutF x i = 41)) (h0 : 0 ≤ i) (h3 : stop ≤ x.length) (b : (Txt.item x j == Str.ofString "\\") = false ∨ ¬ j + 1 < stop) : TInv x stop i (j + 1) :=
  ⟨by omega, by omega, by rw [← e, title_one h n c fun q => b.elim (fun r => item_isnt bs_is (by omega) (by omega) r q.1) fun r => r q.2]⟩
theorem td_no0 (h : stop ≤ i) : titleD x i stop = .no := by unfold titleD; rw [if_neg (by omega)]
theorem td_noA (h : ([Str.ofString "\"", Str.ofString "'", Str.ofString "("].any fun y => y == Txt.item x i) = false) (h0 : 0 ≤ i) (h1 : i < x.length) : titleD x i stop = .no := by
  unfold titleD; rw [any_open h0 h1] at h; rw [if_neg fun q => of_decide_eq_false h q.2]
theorem td_in (h : ¬ stop ≤ i) (a : ([Str.ofString "\"", Str.ofString "'", Str.ofString "("].any fun y => y == Txt.item x i) = true) (h0 : 0 ≤ i) (h1 : i < x.length) : i < stop ∧ (cp x i = 34 ∨ cp x i = 39 ∨ cp x i = 40) := by
  rw [any_open h0 h1] at a; exact ⟨by omega, of_decide_eq_true a⟩
theorem td_no (q : i < stop ∧ (cp x i = 34 ∨ cp x i = 39 ∨ cp x i = 40)) (e : titleF x stop (shutF x i) j = titleF x stop (shutF x i) (i + 1)) (h : j < stop) (n : cp x j ≠ shutF x i) (c : cp x j = 40 ∧ shutF x i = 41) : titleD x i stop = .no := by
  unfold titleD; rw [if_pos q, ← e, title_no h n c]
theorem td_ok (q : i < stop ∧ (cp x i = 34 ∨ cp x i = 39 ∨ cp x i = 40)) (e : titleF x stop (shutF x i) j = titleF x stop (shutF x i) (i + 1)) (h : j < stop) (n : cp x j = shutF x i) : titleD x i stop = .ok (plainF (Txt.slice x (some (i + 1)) (some j)) 0) (j + 1) := by
  unfold titleD; rw [if_pos q, ← e, title_ok h n]
theorem td_more (q : i < stop ∧ (cp x i = 34 ∨ cp x i = 39 ∨ cp x i = 40)) (e : titleF x stop (shutF x i) j = titleF x stop (shutF x i) (i + 1)) (h : ¬ j < stop) : titleD x i stop = .more (plainF (Txt.slice x (some (i + 1)) (some stop)) 0) := by
  unfold titleD; rw [if_pos q, ← e, title_end h]
end
end Mine

namespace Mine
/-! the address, as the code looks at it: by the signs' numbers -/
section
variable {x : Str} {stop i j d : Int}
theorem ca_two (e : angleF x stop j = angleF x stop (i + 1)) (hj : j < stop) (h1 : i + 1 ≤ j) (hc : ((cp x j : Nat) : Int) = 92) (h2 : j + 1 < stop) : AInv x stop i (j + 2) :=
  ⟨by omega, .inl (by omega), by rw [← e, angle_two hj (by omega) h2]⟩
theorem ca_one (e : angleF x stop j = angleF x stop (i + 1)) (hj : j < stop) (h1 : i + 1 ≤ j) (c1 : ((cp x j : Nat) : Int) ≠ 10) (c2 : ((cp x j : Nat) : Int) ≠ 60) (c3 : ((cp x j : Nat) : Int) ≠ 62) (hc : ((cp x j : Nat) : Int) ≠ 92 ∨ ¬ j + 1 < stop) : AInv x stop i (j + 1) :=
  ⟨by omega, .inl (by omega), by rw [← e, ← angle_one hj (by omega) (by omega) (by omega)]⟩
theorem ca_nl (e : angleF x stop j = angleF x stop (i + 1)) (hj : j < stop) (c : ((cp x j : Nat) : Int) = 10) : angleF x stop (i + 1) = none := by rw [← e, angle_no hj (by omega)]
theorem ca_lt (e : angleF x stop j = angleF x stop (i + 1)) (hj : j < stop) (c : ((cp x j : Nat) : Int) = 60) : angleF x stop (i + 1) = none := by rw [← e, angle_no hj (by omega)]
theorem ca_gt (e : angleF x stop j = angleF x stop (i + 1)) (hj : j < stop) (c : ((cp x j : Nat) : Int) = 62) : angleF x stop (i + 1) = some j := by rw [← e, angle_shut hj (by omega)]

theorem cb_two (e : bareF x stop j d = bareF x stop i 0) (h : j < stop) (h1 : i ≤ j) (d0 : 0 ≤ d) (d1 : d ≤ 32) (c : ((cp x j : Nat) : Int) = 92) (h2 : j + 1 < stop) (c2 : ((cp x (j + 1) : Nat) : Int) ≠ 32) : BInv x stop i (j + 2) d :=
  ⟨by omega, by omega, d0, d1, by rw [← e, ← bare_two h (by omega) h2 (by omega)]⟩
theorem cb_open (e : bareF x stop j d = bareF x stop i 0) (h : j < stop) (h1 : i ≤ j) (d0 : 0 ≤ d) (c : ((cp x j : Nat) : Int) = 40) (hd : ¬ 32 < d + 1) : BInv x stop i (j + 1) (d + 1) :=
  ⟨by omega, by omega, by omega, by omega, by rw [← e, ← bare_open h (by omega) hd]⟩
theorem cb_shut (e : bareF x stop j d = bareF x stop i 0) (h : j < stop) (h1 : i ≤ j) (d0 : 0 ≤ d) (d1 : d ≤ 32) (c : ((cp x j : Nat) : Int) = 41) (hd : d ≠ 0) : BInv x stop i (j + 1) (d - 1) :=
  ⟨by omega, by omega, by omega, by omega, by rw [← e, ← bare_shut h (by omega) hd]⟩
theorem cb_one (e : bareF x stop j d = bareF x stop i 0) (h : j < stop) (h1 : i ≤ j) (d0 : 0 ≤ d) (d1 : d ≤ 32) (c1 : ((cp x j : Nat) : Int) ≠ 32) (c2 : ¬ ((cp x j : Nat) : Int) < 32) (c3 : ((cp x j : Nat) : Int) ≠ 127) (c5 : ((cp x j : Nat) : Int) ≠ 40) (c6 : ((cp x j : Nat) : Int) ≠ 41)
    (c4 : ((cp x j : Nat) : Int) ≠ 92 ∨ ¬ j + 1 < stop) : BInv x stop i (j + 1) d :=
  ⟨by omega, by omega, d0, d1, by rw [← e, ← bare_one h (by omega) (by omega) (by omega) (by omega)]⟩
theorem ce_blank (e : bareF x stop j d = bareF x stop i 0) (h : j < stop) (c : ((cp x j : Nat) : Int) = 32) : bareF x stop i 0 = some (j, d) := by rw [← e, bare_blank h (by omega)]
theorem ce_low (e : bareF x stop j d = bareF x stop i 0) (h : j < stop) (c : ((cp x j : Nat) : Int) < 32) : bareF x stop i 0 = some (j, d) := by rw [← e, bare_blank h (by omega)]
theorem ce_del (e : bareF x stop j d = bareF x stop i 0) (h : j < stop) (c : ((cp x j : Nat) : Int) = 127) : bareF x stop i 0 = some (j, d) := by rw [← e, bare_blank h (by omega)]
theorem ce_slash (e : bareF x stop j d = bareF x stop i 0) (h : j < stop) (c : ((cp x j : Nat) : Int) = 92) (h2 : j + 1 < stop) (c2 : ((cp x (j + 1) : Nat) : Int) = 32) : bareF x stop i 0 = some (j, d) := by rw [← e, bare_slash h (by omega) h2 (by omega)]
theorem ce_shut (e : bareF x stop j d = bareF x stop i 0) (h : j < stop) (c : ((cp x j : Nat) : Int) = 41) (hd : d = 0) : bareF x stop i 0 = some (j, d) := by rw [← e, bare_shut0 h (by omega) hd]
theorem ce_over (e : bareF x stop j d = bareF x stop i 0) (h : j < stop) (c : ((cp x j : Nat) : Int) = 40) (hd : 32 < d + 1) : bareF x stop i 0 = none := by rw [← e, bare_over h (by omega) hd]

def destD (x : Str) (i stop : Int) : Option (Str × Int) := if cp x i = 60 then angleD x i stop else bareD x i stop
theorem dd_angle (h : ((cp x i : Nat) : Int) = 60) : destD x i stop = angleD x i stop := if_pos (by omega)
theorem dd_bare (h : ((cp x i : Nat) : Int) ≠ 60) : destD x i stop = bareD x i stop := if_neg (by omega)
end
def okOf (f : Option (Str × Int)) : Bool := match f with | none => false | some _ => true
def posOf (f : Option (Str × Int)) : Int := match f with | none => 0 | some q => q.2
def strOf (f : Option (Str × Int)) : Str := match f with | none => Str.ofString "" | some q => q.1
/-- an address's answer: an object of the class at 48 -/
def resObj (d : Addr) (f : Option (Str × Int)) (t1 t2 : Tok) : Obj := { cls := .ref 48, dict := some d, data := .plain, slots := #[some (.bool (okOf f)), some (.int (posOf f) t1), some (.str (strOf f) t2)] }
def DestR (f : Option (Str × Int)) (v : Value) (nx : List (Addr × Obj)) : Prop := ∃ r d t1 t2, v = .ref r ∧ nx = [(r, resObj d f t1 t2), (d, dictOf [] 0)]
theorem dest_none {f : Option (Str × Int)} (h : f = none) {r d : Addr} {t1 t2 : Tok} : DestR f (.ref r) [(r, { cls := .ref 48, dict := some d, data := .plain, slots := #[some (.bool false), some (.int 0 t1), some (.str (Str.ofString "") t2)] }), (d, dictOf [] 0)] := by
  subst h; exact ⟨r, d, t1, t2, rfl, rfl⟩
theorem dest_some {f : Option (Str × Int)} {y : Str} {p : Int} (h : f = some (y, p)) {r d : Addr} {t1 t2 : Tok} : DestR f (.ref r) [(r, { cls := .ref 48, dict := some d, data := .plain, slots := #[some (.bool true), some (.int p t1), some (.str y t2)] }), (d, dictOf [] 0)] := by
  subst h; exact ⟨r, d, t1, t2, rfl, rfl⟩
end Mine

namespace Mine
theorem plainF_len {x : Str} : ∀ (n : Nat) (i : Int), 0 ≤ i → (x.length : Int) - i ≤ n → ((plainF x i).length : Int) ≤ n := by
  intro n
  induction n using Nat.strongRecOn with
  | ind n ih =>
    intro i h0 h
    by_cases hi : i < x.length
    · by_cases hc : cp x i = 92 ∧ i + 1 < x.length ∧ mark (cp x (i + 1)) = true
      · rw [plainF_two hi hc.1 hc.2.1 hc.2.2, len_app]
        have := ih (n - 2) (by omega) (i + 2) (by omega) (by omega)
        show (((1 : Nat) + _ : Nat) : Int) ≤ n
        omega
      · rw [plainF_one hi hc, len_app]
        have := ih (n - 1) (by omega) (i + 1) (by omega) (by omega)
        show (((1 : Nat) + _ : Nat) : Int) ≤ n
        omega
    · rw [plainF_none hi]; show ((0 : Nat) : Int) ≤ n; omega
theorem plainF_len0 (x : Str) : (plainF x 0).length ≤ x.length := by have := plainF_len (x := x) x.length 0 (by omega) (by omega); omega
theorem e_app (y : Str) : Str.ofString "" ++ y = y := by rw [show Str.ofString "" = (⟨#[]⟩ : Str) by decide +kernel, nil_app]

section
variable {x : Str} {stop i j : Int}
theorem cneA (o : ((cp x i : Nat) : Int) = 40) (c : ((cp x j : Nat) : Int) ≠ 41) : cp x j ≠ shutF x i := by unfold shutF; rw [if_pos (by omega)]; omega
theorem cneB (o : ((cp x i : Nat) : Int) ≠ 40) (c : ((cp x j : Nat) : Int) ≠ ((cp x i : Nat) : Int)) : cp x j ≠ shutF x i := by unfold shutF; rw [if_neg (by omega)]; omega
theorem ceqA (o : ((cp x i : Nat) : Int) = 40) (c : ((cp x j : Nat) : Int) = 41) : cp x j = shutF x i := by unfold shutF; rw [if_pos (by omega)]; omega
theorem ceqB (o : ((cp x i : Nat) : Int) ≠ 40) (c : ((cp x j : Nat) : Int) = ((cp x i : Nat) : Int)) : cp x j = shutF x i := by unfold shutF; rw [if_neg (by omega)]; omega
theorem cnoA (c : ((cp x j : Nat) : Int) ≠ 40) : ¬ (cp x j = 40 ∧ shutF x i = 41) := fun q => c (by omega)
theorem cnoB (o : ((cp x i : Nat) : Int) ≠ 40) (c : ((cp x i : Nat) : Int) ≠ 41) : ¬ (cp x j = 40 ∧ shutF x i = 41) := fun q => c (by have := q.2; unfold shutF at this; rw [if_neg (by omega)] at this; omega)
theorem cyesA (o : ((cp x i : Nat) : Int) = 40) (c : ((cp x j : Nat) : Int) = 40) : cp x j = 40 ∧ shutF x i = 41 := ⟨by omega, by unfold shutF; rw [if_pos (by omega)]⟩
theorem cyesB (o : ((cp x i : Nat) : Int) ≠ 40) (c : ((cp x j : Nat) : Int) = 40) (c2 : ((cp x i : Nat) : Int) = 41) : cp x j = 40 ∧ shutF x i = 41 := ⟨by omega, by unfold shutF; rw [if_neg (by omega)]; omega⟩
theorem ct_two (e : titleF x stop (shutF x i) j = titleF x stop (shutF x i) (i + 1)) (h : j < stop) (hj : i + 1 ≤ j) (n : cp x j ≠ shutF x i) (c : ¬ (cp x j = 40 ∧ shutF x i = 41)) (b : ((cp x j : Nat) : Int) = 92) (h2 : j + 1 < stop) : TInv x stop i (j + 1 + 1) :=
  ⟨by omega, by omega, by rw [← e, title_two h n c ⟨by omega, h2⟩, show j + 1 + 1 = j + 2 by omega]⟩
theorem ct_one (e : titleF x stop (shutF x i) j = titleF x stop (shutF x i) (i + 1)) (h : j < stop) (hj : i + 1 ≤ j) (n : cp x j ≠ shutF x i) (c : ¬ (cp x j = 40 ∧ shutF x i = 41)) (b : ((cp x j : Nat) : Int) ≠ 92 ∨ ¬ j + 1 < stop) : TInv x stop i (j + 1) :=
  ⟨by omega, by omega, by rw [← e, title_one h n c (by omega)]⟩
theorem cd_noA (a : ((cp x i : Nat) : Int) ≠ 34) (b : ((cp x i : Nat) : Int) ≠ 39) (c : ((cp x i : Nat) : Int) ≠ 40) : titleD x i stop = .no := by
  unfold titleD; rw [if_neg (by omega)]
theorem td_more' (q : i < stop ∧ (cp x i = 34 ∨ cp x i = 39 ∨ cp x i = 40)) (e : titleF x stop (shutF x i) j = titleF x stop (shutF x i) (i + 1)) (h : ¬ j < stop) (hj : j ≤ stop) : titleD x i stop = .more (plainF (Txt.slice x (some (i + 1)) (some j)) 0) := by
  rw [td_more q e h, show j = stop by omega]
end
def contOf : TD → Bool | .more _ => true | _ => false
def tokOf : TD → Bool | .ok _ _ => true | _ => false
def tposOf : TD → Int | .ok _ p => p | _ => 0
def tstrOf : TD → Str | .ok y _ => y | .more y => y | .no => Str.ofString ""
/-- a title's answer: an object of the class at 86 -/
def stObj (dd : Addr) (d : TD) (mk : Int) (t1 t2 t3 : Tok) : Obj := { cls := .ref 86, dict := some dd, data := .plain, slots := #[some (.bool (contOf d)), some (.int mk t1), some (.bool (tokOf d)), some (.int (tposOf d) t2), some (.str (tstrOf d) t3)] }
def StateR (d : TD) (v : Value) (nx : List (Addr × Obj)) : Prop := ∃ r dd mk t1 t2 t3, v = .ref r ∧ nx = [(r, stObj dd d mk t1 t2 t3), (dd, dictOf [] 0)]
section
variable {d : TD} {r dd : Addr} {mk : Int} {t1 t2 t3 : Tok} {y : Str} {p : Int}
theorem state_no (h : d = .no) : StateR d (.ref r) [(r, { cls := .ref 86, dict := some dd, data := .plain, slots := #[some (.bool false), some (.int mk t1), some (.bool false), some (.int 0 t2), some (.str (Str.ofString "") t3)] }), (dd, dictOf [] 0)] := by
  subst h; exact ⟨r, dd, mk, t1, t2, t3, rfl, rfl⟩
theorem state_ok (h : d = .ok y p) : StateR d (.ref r) [(r, { cls := .ref 86, dict := some dd, data := .plain, slots := #[some (.bool false), some (.int mk t1), some (.bool true), some (.int p t2), some (.str (Str.ofString "" ++ y) t3)] }), (dd, dictOf [] 0)] := by
  subst h; rw [e_app]; exact ⟨r, dd, mk, t1, t2, t3, rfl, rfl⟩
theorem state_more (h : d = .more y) : StateR d (.ref r) [(r, { cls := .ref 86, dict := some dd, data := .plain, slots := #[some (.bool true), some (.int mk t1), some (.bool false), some (.int 0 t2), some (.str (Str.ofString "" ++ y) t3)] }), (dd, dictOf [] 0)] := by
  subst h; rw [e_app]; exact ⟨r, dd, mk, t1, t2, t3, rfl, rfl⟩
end
end Mine

namespace Mine
theorem pair_cases {f : Option (Str × Int)} {v : Value} {nx : List (Addr × Obj)} (r9 : PairR f v nx) :
    (f = none ∧ v = .none ∧ nx = []) ∨ ∃ y p r t1 t2, f = some (y, p) ∧ v = .ref r ∧ nx = [(r, listOf #[.str y t1, .int p t2] 0)] := by
  match f, r9 with
  | none, ⟨a, b⟩ => exact .inl ⟨rfl, a, b⟩
  | some (y, p), ⟨r, t1, t2, a, b⟩ => exact .inr ⟨y, p, r, t1, t2, rfl, a, b⟩
theorem dest_none_of {f : Option (Str × Int)} {v : Value} {nx : List (Addr × Obj)} (e : f = none) (r9 : DestR f v nx) :
    ∃ r d t1 t2, v = .ref r ∧ nx = [(r, { cls := .ref 48, dict := some d, data := .plain, slots := #[some (.bool false), some (.int 0 t1), some (.str (Str.ofString "") t2)] }), (d, dictOf [] 0)] := by
  subst e; exact r9
theorem dest_some_of {f : Option (Str × Int)} {y : Str} {p : Int} {v : Value} {nx : List (Addr × Obj)} (e : f = some (y, p)) (r9 : DestR f v nx) :
    ∃ r d t1 t2, v = .ref r ∧ nx = [(r, { cls := .ref 48, dict := some d, data := .plain, slots := #[some (.bool true), some (.int p t1), some (.str y t2)] }), (d, dictOf [] 0)] := by
  subst e; exact r9
section
variable {x : Str} {i stop : Int} {f : Option (Str × Int)}
theorem dd_a (c : (Txt.item x i == Str.ofString "<") = true) (e : angleD x i stop = f) (h0 : 0 ≤ i) (h1 : i < x.length) : destD x i stop = f := by
  unfold destD; rw [if_pos (item_is lt_is h0 h1 c), e]
theorem dd_b (c : (Txt.item x i == Str.ofString "<") = false) (e : bareD x i stop = f) (h0 : 0 ≤ i) (h1 : i < x.length) : destD x i stop = f := by
  unfold destD; rw [if_neg (item_isnt lt_is h0 h1 c), e]
end
theorem state_cases {d : TD} {v : Value} {nx : List (Addr × Obj)} (r9 : StateR d v nx) :
    (d = .no ∧ ∃ r dd mk t1 t2 t3, v = .ref r ∧ nx = [(r, { cls := .ref 86, dict := some dd, data := .plain, slots := #[some (.bool false), some (.int mk t1), some (.bool false), some (.int 0 t2), some (.str (Str.ofString "") t3)] }), (dd, dictOf [] 0)]) ∨
    (∃ y, d = .more y ∧ ∃ r dd mk t1 t2 t3, v = .ref r ∧ nx = [(r, { cls := .ref 86, dict := some dd, data := .plain, slots := #[some (.bool true), some (.int mk t1), some (.bool false), some (.int 0 t2), some (.str y t3)] }), (dd, dictOf [] 0)]) ∨
    (∃ y p, d = .ok y p ∧ ∃ r dd mk t1 t2 t3, v = .ref r ∧ nx = [(r, { cls := .ref 86, dict := some dd, data := .plain, slots := #[some (.bool false), some (.int mk t1), some (.bool true), some (.int p t2), some (.str y t3)] }), (dd, dictOf [] 0)]) := by
  match d, r9 with
  | .no, q => exact .inl ⟨rfl, q⟩
  | .more y, q => exact .inr (.inl ⟨y, rfl, q⟩)
  | .ok y p, q => exact .inr (.inr ⟨y, p, rfl, q⟩)
theorem told_no_of {d : TD} {v : Value} {nx : List (Addr × Obj)} (e : d = .no) (r9 : ToldR d v nx) : ∃ r t, v = .ref r ∧ nx = [(r, listOf #[.str (Str.ofString "no") t] 0)] := by subst e; exact r9
theorem told_more_of {d : TD} {y : Str} {v : Value} {nx : List (Addr × Obj)} (e : d = .more y) (r9 : ToldR d v nx) : ∃ r t t1, v = .ref r ∧ nx = [(r, listOf #[.str (Str.ofString "more") t, .str y t1] 0)] := by subst e; exact r9
theorem told_ok_of {d : TD} {y : Str} {p : Int} {v : Value} {nx : List (Addr × Obj)} (e : d = .ok y p) (r9 : ToldR d v nx) : ∃ r t t1 t2, v = .ref r ∧ nx = [(r, listOf #[.str (Str.ofString "ok") t, .str y t1, .int p t2] 0)] := by subst e; exact r9
end Mine

namespace Mine
def Ok (x : Str) : Prop := ∀ c ∈ x.cps.toList, c < 0x110000
theorem ok_str {x : Str} (h : Ok x) : PyData.strOk x = true := by
  unfold PyData.strOk
  rw [Array.all_eq_true']
  intro c hc
  exact decide_eq_true (h c (Array.mem_toList_iff.mpr hc))
theorem slice_mem {x : Str} {l u : Option Int} {c : Nat} (h : c ∈ (Txt.slice x l u).cps.toList) : c ∈ x.cps.toList := by
  unfold Txt.slice at h
  split at h
  · exact h
  · obtain ⟨k, _, hk⟩ := List.mem_filterMap.mp (by simpa using h)
    exact Array.mem_toList_iff.mpr (Array.mem_of_getElem? hk)
theorem plainF_mem {x : Str} {c : Nat} : ∀ (n : Nat) (i : Int), 0 ≤ i → (x.length : Int) - i ≤ n → c ∈ (plainF x i).cps.toList → c ∈ x.cps.toList := by
  intro n
  induction n using Nat.strongRecOn with
  | ind n ih =>
    intro i h0 h hm
    by_cases hi : i < x.length
    · by_cases hc : cp x i = 92 ∧ i + 1 < x.length ∧ mark (cp x (i + 1)) = true
      · rw [plainF_two hi hc.1 hc.2.1 hc.2.2, cps_app] at hm
        rcases List.mem_append.mp hm with q | q
        · have e : c = cp x (i + 1) := by simpa using q
          exact e ▸ List.mem_of_getElem? (cp_some (by omega) hc.2.1)
        · exact ih (n - 2) (by omega) (i + 2) (by omega) (by omega) q
      · rw [plainF_one hi hc, cps_app] at hm
        rcases List.mem_append.mp hm with q | q
        · have e : c = cp x i := by simpa using q
          exact e ▸ List.mem_of_getElem? (cp_some h0 hi)
        · exact ih (n - 1) (by omega) (i + 1) (by omega) (by omega) q
    · rw [plainF_none hi] at hm; cases hm
theorem ok_plain {x : Str} (h : Ok x) (l u : Option Int) : Ok (plainF (Txt.slice x l u) 0) := fun c hc =>
  h c (slice_mem (plainF_mem (Txt.slice x l u).length 0 (by omega) (by omega) hc))
theorem ok_angle {x : Str} {i stop : Int} {y : Str} {p : Int} (h : Ok x) (e : angleD x i stop = some (y, p)) : Ok y := by
  unfold angleD at e
  cases q : angleF x stop (i + 1) with
  | none => rw [q] at e; cases e
  | some p' => rw [q] at e; cases e; exact ok_plain h _ _
theorem ok_bare {x : Str} {i stop : Int} {y : Str} {p : Int} (h : Ok x) (e : bareD x i stop = some (y, p)) : Ok y := by
  unfold bareD at e
  split at e
  · cases e
  · split at e
    · cases e
    · cases e; exact ok_plain h _ _
theorem ok_more {x : Str} {i stop : Int} {y : Str} (h : Ok x) (e : titleD x i stop = .more y) : Ok y := by
  unfold titleD at e
  split at e
  · split at e <;> cases e
    exact ok_plain h _ _
  · cases e
theorem ok_ok {x : Str} {i stop : Int} {y : Str} {p : Int} (h : Ok x) (e : titleD x i stop = .ok y p) : Ok y := by
  unfold titleD at e
  split at e
  · split at e <;> cases e
    exact ok_plain h _ _
  · cases e

section
variable {prog : Program} {w : World} {A : Around} {E : Value → Shared → Prop} {s : Shared} {h₀ : Heap} {L a b : Addr} {news : List (Addr × Obj)} {Q : Value → Shared → Prop} {y z : Str} {p : Int} {t1 t2 t3 u1 u2 u3 : Tok}
theorem eqv_self (b : Bool) : (b == b) = true := by cases b <;> rfl
theorem ne_bsi {bb : Bool} (N : News h₀ L s.heap news) (ma : (a, listOf #[.bool bb, .str y t1, .int p t2] 0) ∈ news) (mb : (b, listOf #[.bool bb, .str y u1, .int p u2] 0) ∈ news) (ok : Ok y) (hu : A.units + 64 < cLine) (h : Q (.bool false) s) :
    wpAny (model prog w) A (compareOp .NotEq (.ref a) (.ref b)) Q E s := by
  refine ne_dataH (da := .list [.bool bb, .str y, .int p]) (db := .list [.bool bb, .str y, .int p]) (reads_list_at (N.get ma) rfl rfl (.cons (.bool _) (.cons (.str _ _) (.cons (.int _ _) .nil)))) (reads_list_at (N.get mb) rfl rfl (.cons (.bool _) (.cons (.str _ _) (.cons (.int _ _) .nil)))) ?_ ?_ hu ?_
  · simp [SeqAt.shaped, PyData.canLay0, PyData.canLayAll0, PyData.depth, PyData.depthAll, ok_str ok]
  · simp [SeqAt.shaped, PyData.canLay0, PyData.canLayAll0, PyData.depth, PyData.depthAll, ok_str ok]
  · simpa [PyData.eqv, PyData.eqvAll] using h
theorem eq_s (N : News h₀ L s.heap news) (ma : (a, listOf #[.str y t1] 0) ∈ news) (mb : (b, listOf #[.str y u1] 0) ∈ news) (ok : Ok y) (hu : A.units + 64 < cLine) (h : Q (.bool true) s) :
    wpAny (model prog w) A (compareOp .Eq (.ref a) (.ref b)) Q E s := by
  refine eq_dataH (da := .list [.str y]) (db := .list [.str y]) (reads_list_at (N.get ma) rfl rfl (.cons (.str _ _) .nil)) (reads_list_at (N.get mb) rfl rfl (.cons (.str _ _) .nil)) ?_ ?_ hu ?_
  · simp [SeqAt.shaped, PyData.canLay0, PyData.canLayAll0, PyData.depth, PyData.depthAll, ok_str ok]
  · simp [SeqAt.shaped, PyData.canLay0, PyData.canLayAll0, PyData.depth, PyData.depthAll, ok_str ok]
  · simpa [PyData.eqv, PyData.eqvAll] using h
theorem eq_ss (N : News h₀ L s.heap news) (ma : (a, listOf #[.str y t1, .str z t2] 0) ∈ news) (mb : (b, listOf #[.str y u1, .str z u2] 0) ∈ news) (ok : Ok y) (ok' : Ok z) (hu : A.units + 64 < cLine) (h : Q (.bool true) s) :
    wpAny (model prog w) A (compareOp .Eq (.ref a) (.ref b)) Q E s := by
  refine eq_dataH (da := .list [.str y, .str z]) (db := .list [.str y, .str z]) (reads_list_at (N.get ma) rfl rfl (.cons (.str _ _) (.cons (.str _ _) .nil))) (reads_list_at (N.get mb) rfl rfl (.cons (.str _ _) (.cons (.str _ _) .nil))) ?_ ?_ hu ?_
  · simp [SeqAt.shaped, PyData.canLay0, PyData.canLayAll0, PyData.depth, PyData.depthAll, ok_str ok, ok_str ok']
  · simp [SeqAt.shaped, PyData.canLay0, PyData.canLayAll0, PyData.depth, PyData.depthAll, ok_str ok, ok_str ok']
  · simpa [PyData.eqv, PyData.eqvAll] using h
theorem eq_ssi (N : News h₀ L s.heap news) (ma : (a, listOf #[.str y t1, .str z t2, .int p t3] 0) ∈ news) (mb : (b, listOf #[.str y u1, .str z u2, .int p u3] 0) ∈ news) (ok : Ok y) (ok' : Ok z) (hu : A.units + 64 < cLine) (h : Q (.bool true) s) :
    wpAny (model prog w) A (compareOp .Eq (.ref a) (.ref b)) Q E s := by
  refine eq_dataH (da := .list [.str y, .str z, .int p]) (db := .list [.str y, .str z, .int p]) (reads_list_at (N.get ma) rfl rfl (.cons (.str _ _) (.cons (.str _ _) (.cons (.int _ _) .nil)))) (reads_list_at (N.get mb) rfl rfl (.cons (.str _ _) (.cons (.str _ _) (.cons (.int _ _) .nil)))) ?_ ?_ hu ?_
  · simp [SeqAt.shaped, PyData.canLay0, PyData.canLayAll0, PyData.depth, PyData.depthAll, ok_str ok, ok_str ok']
  · simp [SeqAt.shaped, PyData.canLay0, PyData.canLayAll0, PyData.depth, PyData.depthAll, ok_str ok, ok_str ok']
  · simpa [PyData.eqv, PyData.eqvAll] using h
theorem pick {value slice : PySem.Expr} {u : Tok} {k : Int} {vs : List Value} {v : Value} (N : News h₀ L s.heap news) (m : (a, listOf vs.toArray 0) ∈ news) (h0 : 0 ≤ k) (hhi : k < 2 ^ 63) (hx : vs[k.toNat]? = some v) (h : Q v s)
    (hs : subscripted slice false (.ref a) (.int k u) = operate [.ref a, .int k u] (getItem (.ref a) (.int k u))) : wpAny (model prog w) A (subscriptTail value slice (.ref a) (.int k u)) Q E s :=
  have hl : s.heap.IsList a vs.toArray := ⟨_, N.get m, rfl, 0, rfl⟩
  tail_any hl.typeIs slot_list_getitem.lookup (wpAny_getItem_list hl h0 hhi (by simpa using hx) h) hs
end
theorem ok_e : Ok (Str.ofString "") := by unfold Ok; decide +kernel
theorem ok_no : Ok (Str.ofString "no") := by unfold Ok; decide +kernel
theorem ok_m : Ok (Str.ofString "more") := by unfold Ok; decide +kernel
theorem ok_k : Ok (Str.ofString "ok") := by unfold Ok; decide +kernel
end Mine

namespace Mine
theorem ok_app {a b : Str} (h : Ok a) (k : Ok b) : Ok (a ++ b) := fun c hc => by
  rw [cps_app] at hc
  exact (List.mem_append.mp hc).elim (h c) (k c)
abbrev pcs : List Str := [Str.ofString "(", Str.ofString ")", Str.ofString "a", Str.ofString "\\(", Str.ofString "\\)", Str.ofString "\\ ", Str.ofString "\\\\", Str.ofString " ", Str.ofString "<", Str.ofString ">", Str.ofString "\"", Str.ofString "'", Str.ofString "\n", Str.ofString "\x01", Str.ofString "\x7f", Str.ofString "\\", Str.ofString "b(c)", Str.ofString "\\\"", Str.ofString "\\>", Str.ofString ""]
theorem pcs_all : ∀ p ∈ pcs, (∀ c ∈ p.cps.toList, c < 0x110000) ∧ p.length ≤ 4 := by decide +kernel
theorem pcs_get (k : Nat) : Ok (pcs.getD k Str.empty) ∧ (pcs.getD k Str.empty).length ≤ 4 := by
  rw [List.getD_eq_getElem?_getD]
  cases h : pcs[k]? with
  | none => exact ⟨fun c hc => (by cases hc), by decide⟩
  | some p => exact pcs_all p (List.mem_of_getElem? h)
theorem fmod5 (n : Int) : 0 ≤ n.fmod 5 ∧ n.fmod 5 ≤ 4 := by
  rw [Int.fmod_eq_emod_of_nonneg _ (by decide)]
  omega
theorem mul_ok {x : Str} {c : Nat} (hx : x = ⟨#[c]⟩) (hc : c < 0x110000) (k : Int) : Ok (Txt.mul x k) := fun d hd => by
  rw [hx, mul_one_list] at hd
  rw [List.eq_of_mem_replicate hd]; exact hc
theorem mul_le {x : Str} {c : Nat} (hx : x = ⟨#[c]⟩) (n : Int) : (Txt.mul x (30 + n.fmod 5)).length ≤ 34 := len_mul_one hx (by have := fmod5 n; omega)
theorem a_is : Str.ofString "a" = ⟨#[97]⟩ := by decide +kernel
theorem e_len : (Str.ofString "").length = 0 := by decide +kernel
theorem a_len : (Str.ofString "a").length = 1 := by decide +kernel
section
variable {line : Str} {pre : List Int} {n runs : Int}
abbrev LInv (line : Str) (pre : List Int) (runs : Int) : Prop := Ok line ∧ line.length ≤ 69 * pre.length ∧ 0 ≤ runs
theorem li_start : LInv (Str.ofString "") [] 0 := ⟨ok_e, by rw [e_len]; omega, by omega⟩
theorem li_piece {p : Str} (hp : Ok p ∧ p.length ≤ 4) (h : Ok line) (hl : line.length ≤ 69 * pre.length) (hr : 0 ≤ runs) : LInv (line ++ p) (pre ++ [n]) runs :=
  ⟨ok_app h hp.1, by rw [len_app, List.length_append]; have := hp.2; simp only [List.length_cons, List.length_nil]; omega, hr⟩
theorem li_run (h : Ok line) (hl : line.length ≤ 69 * pre.length) : LInv ((line ++ Txt.mul (Str.ofString "(") (30 + n.fmod 5)) ++ (Str.ofString "a" ++ Txt.mul (Str.ofString ")") (30 + n.fmod 5))) (pre ++ [n]) 1 :=
  ⟨ok_app (ok_app h (mul_ok op_is (by decide) _)) (ok_app (by unfold Ok; decide +kernel) (mul_ok sh_is (by decide) _)), by
    have h1 := mul_le op_is n
    have h2 := mul_le sh_is n
    rw [len_app, len_app, len_app, List.length_append, a_len]; simp only [List.length_cons, List.length_nil]; omega, by decide⟩
theorem li_open (h : Ok line) (hl : line.length ≤ 69 * pre.length) : LInv ((line ++ Txt.mul (Str.ofString "(") (30 + n.fmod 5)) ++ Str.ofString "") (pre ++ [n]) 1 :=
  ⟨ok_app (ok_app h (mul_ok op_is (by decide) _)) ok_e, by
    have h1 := mul_le op_is n
    rw [len_app, len_app, List.length_append, e_len]; simp only [List.length_cons, List.length_nil]; omega, by decide⟩
end
def lit : Str := Str.ofString "<a>(b)"
theorem ok_lit : Ok (Str.ofString "<a>(b)") := by unfold Ok; decide +kernel
theorem len_lit : (Str.ofString "<a>(b)").length = 6 := by decide +kernel
theorem ints4_of {h₀ h : Heap} {L l : Addr} {news : List (Addr × Obj)} {a b c d : Int} {ta tb tc td : Tok} (_ : News h₀ L h news) (_ : (l, listOf #[.int a ta, .int b tb, .int c tc, .int d td] 0) ∈ news) : IntsAre [.int a ta, .int b tb, .int c tc, .int d td] [a, b, c, d] :=
  .cons _ _ (.cons _ _ (.cons _ _ (.cons _ _ .nil)))
theorem ge4 {n a b : Int} (m : n ∈ [0, 1, a, b]) (ha : 0 ≤ a) (hb : 0 ≤ b) : 0 ≤ n := by
  simp only [List.mem_cons, List.not_mem_nil, or_false] at m
  omega
theorem geR {n : Int} {k : Nat} (m : n ∈ List.map (fun k' => k') (rangeKs 0 k)) : 0 ≤ n := by
  rw [List.map_id' ] at m
  exact (mem_rangeKs m).1
theorem pre_le {ns pre post : List Int} {k : Int} (e : ns.take 10 = pre ++ k :: post) : pre.length ≤ 9 := by
  have h : (ns.take 10).length ≤ 10 := by rw [List.length_take]; omega
  rw [e] at h; simp only [List.length_append, List.length_cons] at h; omega
section
variable {prog : Program} {w : World} {A : Around} {E : Value → Shared → Prop} {s : Shared} {Q : Value → Shared → Prop} {line : Str} {n : Int} {t u : Tok} {ns pre post : List Int} {k : Int}
theorem add_a (h : ∀ t' tk, Q (.str (Str.ofString "a" ++ Txt.mul (Str.ofString ")") (30 + n.fmod 5)) t') { s with toks := tk }) :
    wpAny (model prog w) A (binaryOp .Add (.str (Str.ofString "a") t) (.str (Txt.mul (Str.ofString ")") (30 + n.fmod 5)) u)) Q E s :=
  add_str h (by have := mul_le sh_is n; rw [a_len, sizeLine_eq]; omega)
theorem add_b (e : ns.take 10 = pre ++ k :: post) (hl : line.length ≤ 69 * pre.length) (h : ∀ t' tk, Q (.str ((line ++ Txt.mul (Str.ofString "(") (30 + n.fmod 5)) ++ (Str.ofString "a" ++ Txt.mul (Str.ofString ")") (30 + n.fmod 5))) t') { s with toks := tk }) :
    wpAny (model prog w) A (binaryOp .Add (.str (line ++ Txt.mul (Str.ofString "(") (30 + n.fmod 5)) t) (.str (Str.ofString "a" ++ Txt.mul (Str.ofString ")") (30 + n.fmod 5)) u)) Q E s :=
  add_str h (by have := mul_le sh_is n; have := mul_le op_is n; have := pre_le e; rw [len_app, len_app, a_len, sizeLine_eq]; omega)
theorem add_c (e : ns.take 10 = pre ++ k :: post) (hl : line.length ≤ 69 * pre.length) (h : ∀ t' tk, Q (.str ((line ++ Txt.mul (Str.ofString "(") (30 + n.fmod 5)) ++ Str.ofString "") t') { s with toks := tk }) :
    wpAny (model prog w) A (binaryOp .Add (.str (line ++ Txt.mul (Str.ofString "(") (30 + n.fmod 5)) t) (.str (Str.ofString "") u)) Q E s :=
  add_str h (by have := mul_le op_is n; have := pre_le e; rw [len_app, e_len, sizeLine_eq]; omega)
end
end Mine

namespace Mine
def TwoEnd (h₀ : Heap) (L : Addr) (s₁ : Shared) (x : Str) (m₀ : Str → Option Value) (led : List (Addr × Obj)) (s₂ : Shared) : Prop :=
  ∃ h' tk m', s₂ = { s₁ with heap := h', toks := tk } ∧ Fr h₀ L h' m' ∧ News h₀ L h' led ∧ ∀ z, z ≠ x → m' z = m₀ z
def TwoPost (h₀ : Heap) (L : Addr) (s₁ : Shared) (x : Str) (m₀ : Str → Option Value) (led : List (Addr × Obj)) (Q : Flow → Shared → Prop) (f : Flow) (s₂ : Shared) : Prop := match f with
  | .ret v => Q (.ret v) s₂
  | .brk => Q .next s₂
  | _ => TwoEnd h₀ L s₁ x m₀ led s₂
theorem two_end {h₀ : Heap} {L : Addr} {s₁ : Shared} {x : Str} {m₀ m' : Str → Option Value} {led : List (Addr × Obj)} {h' : Heap} {tk : Nat} (F : Fr h₀ L h' m') (N : News h₀ L h' led) (hm : ∀ z, z ≠ x → m' z = m₀ z) :
    TwoEnd h₀ L s₁ x m₀ led { s₁ with heap := h', toks := tk } := ⟨h', tk, m', rfl, F, N, hm⟩
theorem else_eq {x : Str} {m m₀ : Str → Option Value} (hm : ∀ z, z ≠ x → m z = m₀ z) : m = fun z => if z = x then m z else m₀ z := by
  funext z
  by_cases h : z = x
  · rw [if_pos h]
  · rw [if_neg h]; exact hm z h
section
variable {prog : Program} {w : World} {A : Around} {E : Value → Shared → Prop} {s : Shared} {env : Env} {h₀ : Heap} {target : PySem.Expr} {body : List Stmt} {Q : Flow → Shared → Prop}
theorem two_turns (x : Str) {ax : Addr} {lo : Obj} {v1 v2 : Value} {n : Nat} {m₀ : Str → Option Value} {news : List (Addr × Obj)}
    (hh : A.handled = none) (F : Fr h₀ env.locals s.heap m₀) (N : News h₀ env.locals s.heap news) (hm : (ax, lo) ∈ news) (hc : lo.cls = .type "tuple") (hd : lo.data = .seq [v1, v2].toArray n)
    (t1 : ∀ (u : Str → Option Value) h tk its, Fr h₀ env.locals h (fun z => if z = x then u z else m₀ z) → News h₀ env.locals h (its ++ news) →
      wpAny (model prog w) A (assign target env v1) (fun _ s₂ => wpAny (model prog w) A (execs body env) (TwoPost h₀ env.locals { s with heap := h, toks := tk } x m₀ (its ++ news) Q) E s₂) E { s with heap := h, toks := tk })
    (t2 : ∀ (u : Str → Option Value) h tk its, Fr h₀ env.locals h (fun z => if z = x then u z else m₀ z) → News h₀ env.locals h (its ++ news) →
      wpAny (model prog w) A (assign target env v2) (fun _ s₂ => wpAny (model prog w) A (execs body env) (TwoPost h₀ env.locals { s with heap := h, toks := tk } x m₀ (its ++ news) Q) E s₂) E { s with heap := h, toks := tk })
    (done : ∀ (u : Str → Option Value) h tk (_ : Unit), Fr h₀ env.locals h (fun z => if z = x then u z else m₀ z) → News h₀ env.locals h news → Q .next { s with heap := h, toks := tk }) :
    wpAny (model prog w) A (pyIter (.ref ax)) (fun it s₂ => TurnsAt prog w A h₀ env target body Q E it s₂) E s := by
  refine iter_tupTurns hh F N hm hc hd fun I hI => ?_
  have key : ∀ (v : Value) (r : List Itm) (m : Str → Option Value), (∀ z, z ≠ x → m z = m₀ z) →
      (∀ (u : Str → Option Value) h tk its, Fr h₀ env.locals h (fun z => if z = x then u z else m₀ z) → News h₀ env.locals h (its ++ news) →
        wpAny (model prog w) A (assign target env v) (fun _ s₂ => wpAny (model prog w) A (execs body env) (TwoPost h₀ env.locals { s with heap := h, toks := tk } x m₀ (its ++ news) Q) E s₂) E { s with heap := h, toks := tk }) →
      (∀ m', (∀ z, z ≠ x → m' z = m₀ z) → ItemsRest prog w A E h₀ env target body Q s [(I, "tuple_iterator")] [(ax, lo)] r m' news) →
      ItemsRest prog w A E h₀ env target body Q s [(I, "tuple_iterator")] [(ax, lo)] (.val v :: r) m news := by
    intro v r m hmm turn rest
    refine ItemsRest.val fun h tk F1 o ho N1 => ?_
    rw [else_eq hmm] at F1
    refine wpAny_mono (turn m h tk _ F1 N1) (fun _ s2 p => wpAny_mono p (fun f s3 q => ?_) fun _ _ e => e) fun _ _ e => e
    have fin : TwoEnd h₀ env.locals { s with heap := h, toks := tk } x m₀ ([(I, o)] ++ news) s3 → UnrEndW h₀ env.locals { s with heap := h, toks := tk } [(I, o)] (fun m' n' => SubL [(ax, lo)] n' ∧ ItemsRest prog w A E h₀ env target body Q s [(I, "tuple_iterator")] [(ax, lo)] r m' n') s3 := by
      rintro ⟨h', tk', m', e, F', N', hm'⟩
      exact ⟨h', tk', m', news, e, F', N', fun p hp q hq => by rw [List.mem_singleton.mp hq]; exact Nat.ne_of_lt (hI p hp), ⟨hm, trivial⟩, rest m' hm'⟩
    cases f with
    | ret v => exact q
    | brk => exact q
    | next => exact fin q
    | cont => exact fin q
  refine key v1 _ m₀ (fun _ _ => rfl) t1 fun m1 h1 => key v2 _ m1 h1 t2 fun m2 h2 => ItemsRest.zero fun h tk F3 N3 => ?_
  rw [else_eq h2] at F3
  exact done m2 h tk () F3 N3
end
theorem ge4d {n l : Int} (m : n ∈ [0, 1, l.fdiv 2, l - 1]) (h : 1 ≤ l) : 0 ≤ n := ge4 m (Int.fdiv_nonneg (by omega) (by decide)) (by omega)
theorem max_lo {i a : Int} : i ≤ if a > i then a else i := by split <;> omega
theorem max_hi {i l k : Int} (h : i < l) : (if l - 1 - k.fmod 5 > i then l - 1 - k.fmod 5 else i) ≤ l := by have := fmod5 k; split <;> omega
end Mine

namespace Mine
abbrev Mst : Str := Str.ofString "((((((((((((((((((((((((((((((((a))))))))))))))))))))))))))))))))"
abbrev Ovr : Str := Str.ofString "(((((((((((((((((((((((((((((((((a)))))))))))))))))))))))))))))))))"
theorem mst_open : ∀ n, n < 32 → Mst.cps.getD n 0 = 40 := by decide +kernel
theorem mst_a : Mst.cps.getD 32 0 = 97 := by decide +kernel
theorem mst_shut : ∀ n, n < 65 → 33 ≤ n → Mst.cps.getD n 0 = 41 := by decide +kernel
theorem ovr_open : ∀ n, n < 33 → Ovr.cps.getD n 0 = 40 := by decide +kernel
theorem mst_up : ∀ k : Nat, k ≤ 32 → bareF Mst 65 0 0 = bareF Mst 65 k k := by
  intro k
  induction k with
  | zero => intro _; rfl
  | succ k ih =>
    intro h
    rw [ih (by omega), bare_open (by omega) (by unfold cp; rw [show (k : Int).toNat = k by omega]; exact mst_open k (by omega)) (by omega)]
    rfl
theorem mst_down : ∀ k : Nat, k ≤ 32 → bareF Mst 65 33 32 = bareF Mst 65 (33 + k) (32 - k) := by
  intro k
  induction k with
  | zero => intro _; rfl
  | succ k ih =>
    intro h
    rw [ih (by omega), bare_shut (by omega) (by unfold cp; rw [show (33 + (k : Int)).toNat = 33 + k by omega]; exact mst_shut (33 + k) (by omega) (by omega)) (by omega)]
    congr 1 <;> omega
theorem mst_bare : bareF Mst 65 0 0 = some (65, 0) := by
  rw [mst_up 32 (by omega)]
  have e : cp Mst ((32 : Nat) : Int) = 97 := mst_a
  rw [bare_one (by decide) (by rw [e]; decide) (by rw [e]; decide) (by rw [e]; decide) (by rw [e]; decide)]
  show bareF Mst 65 33 32 = _
  rw [mst_down 32 (by omega)]
  exact bare_end (by decide)
theorem ovr_up : ∀ k : Nat, k ≤ 32 → bareF Ovr 67 0 0 = bareF Ovr 67 k k := by
  intro k
  induction k with
  | zero => intro _; rfl
  | succ k ih =>
    intro h
    rw [ih (by omega), bare_open (by omega) (by unfold cp; rw [show (k : Int).toNat = k by omega]; exact ovr_open k (by omega)) (by omega)]
    rfl
theorem ovr_bare : bareF Ovr 67 0 0 = none := by
  rw [ovr_up 32 (by omega)]
  exact bare_over (by decide) (ovr_open 32 (by decide)) (by decide)
theorem mst_slice : Txt.slice Mst (some 0) (some 65) = Mst := by decide +kernel
theorem mst_dest : destD Mst 0 ((65 : Nat) : Int) = some (Mst, 65) := by
  unfold destD
  rw [if_neg (by rw [show cp Mst 0 = 40 from mst_open 0 (by decide)]; decide)]
  show bareD Mst 0 65 = _
  rw [bd_some mst_bare (by decide) rfl, mst_slice, plainF_no (by decide +kernel)]
theorem ovr_dest : destD Ovr 0 ((67 : Nat) : Int) = none := by
  unfold destD
  rw [if_neg (by rw [show cp Ovr 0 = 40 from ovr_open 0 (by decide)]; decide)]
  exact bd_over ovr_bare
end Mine

namespace Mine
open PySem.Calls
abbrev LS : List Str := [Str.ofString "MD_ASCII_PUNCT", Str.ofString "_Result", Str.ofString "_State", Str.ofString "parseLinkTitle"]

/-- the end of a def's body: what it hands back, and what it has made -/
def Done (s : Shared) (g : Heap) (L' : Addr) (R : Value → List (Addr × Obj) → Prop) (v : Value) (s' : Shared) : Prop :=
  ∃ h' tk' m' nx, s' = { s with heap := h', toks := tk' } ∧ Fr g L' h' m' ∧ News g L' h' nx ∧ R v nx

theorem done {s : Shared} {g : Heap} {L' : Addr} {R : Value → List (Addr × Obj) → Prop} {v : Value} {h' : Heap} {tk' : Nat} {m' : Str → Option Value} {nx : List (Addr × Obj)}
    (F : Fr g L' h' m') (N : News g L' h' nx) (r : R v nx) : Done s g L' R v { s with heap := h', toks := tk' } := ⟨h', tk', m', nx, rfl, F, N, r⟩

def Says (k : Nat) (w : World) (mean : ExcName → Option Value) (mg mb : Str → Option Value) (f : Addr) (vs : List Value) (H : Heap → Prop) (R : Value → List (Addr × Obj) → Prop) : Prop :=
  ∀ (dp un : Nat) (gd : Option (List Code)) (cn : Str) (cs : Scope) (a : Addr) (ccd : Value) (cl : List (Str × Addr)) (outer : List Env) (A₀ : Around) (base h₀ : Heap) (L : Addr) (m : Str → Option Value) (news : List (Addr × Obj)) (s : Shared) (Q E : Value → Shared → Prop),
    Below A₀ base outer h₀ → Fr h₀ L s.heap m → (hd.heap_39 w.params).In h₀ → News h₀ L s.heap news → Top hd.view_39 (looseW hd.view_39 LS) mean mg mb h₀ → cs.kind = .function → dp + k < recursionLimit → un + 16 * k < cLine → H s.heap →
    (∀ v nx h' tk', Fr h₀ L h' m → News h₀ L h' (nx ++ news) → s.heap.StaysIn h' → (∀ p ∈ nx, s.heap.get? p.1 = none) → R v nx → Q v { s with heap := h', toks := tk' }) →
    wpAny (model PySem.Challenge.rw_dp5034_01.row.prog w) (ktrTop dp un gd cn cs L a ccd cl outer) (call (.ref f) vs) Q E s

/-- a def's body, walked once, is its call everywhere -/
theorem says_of {k : Nat} {w : World} {mean : ExcName → Option Value} {mg mb : Str → Option Value} {f : Addr} {vs : List Value} {H : Heap → Prop} {R : Value → List (Addr × Obj) → Prop}
    {name qual : Str} {params : Arguments} {body : List Stmt} {scope : Scope} {dV kV doc pm cdv ct oc : Value} {an od : Option Addr} {osl : Array (Option Value)} {binds : List (Str × Value)}
    (ho : (hd.heap_39 w.params).lookup f = some ⟨oc, od, .func (fnOf name qual params body scope dV kV doc pm an cdv ct), osl⟩) (hcd : codeIn (hd.heap_39 w.params) cdv qual = true)
    (hbind : ∀ s : Shared, (hd.heap_39 w.params).In s.heap → BindsTo s (fnOf name qual params body scope dV kV doc pm an cdv ct) ⟨vs, []⟩ binds) (hloc : ∀ y ∈ binds, scope.names.lookup y.1 = some .local)
    (h : ∀ (dp un : Nat) (gd : Option (List Code)) (outer : List Env) (base g h₁ : Heap) (A₀ : Around) (L' : Addr) (s : Shared) (tk : Nat) (E : Value → Shared → Prop),
      dp + k < recursionLimit → un + 16 * k < cLine → H g → Below A₀ base outer g → (hd.heap_39 w.params).In g → Top hd.view_39 (looseW hd.view_39 LS) mean mg mb g →
      Fr g L' h₁ (fun y => binds.reverse.lookup y) → News g L' h₁ [] →
      wpAny (model PySem.Challenge.rw_dp5034_01.row.prog w) (ktrTop (dp + 1) (un + 3) gd qual scope L' f cdv [] outer) (execs body (envOf qual scope L' f cdv))
        (fun fl s' => Done s g L' R (match fl with | .ret v => v | _ => .none) s')
        (fun e s' => wpAny (model PySem.Challenge.rw_dp5034_01.row.prog w) (ktrTop (dp + 1) (un + 3) gd qual scope L' f cdv [] outer) (leaving (envOf qual scope L' f cdv) e) (fun _ s'' => E e s'') (fun e' s'' => E e' s'') s')
        { s with heap := h₁, toks := tk })
    (hco : scope.isCoroutine = false) (hgen : scope.isGenerator = false) (hk : scope.kind = .function) (hcell : ∀ x ∈ scope.names, x.2 ≠ .cell) :
    Says k w mean mg mb f vs H R := by
  intro dp un gd cn cs a ccd cl outer A₀ base h₀ L m news s Q E B F X N T hck hd hu hH hret
  have Xs := X.keeps F.keep
  have B₁ := pushX (env := envX cn cs L a ccd cl) B F rfl hck
  refine wpAny_call (codeAny_call_def (fd := fnOf name qual params body scope dV kV doc pm an cdv ct) (body := body) (binds := binds) (Nat.lt_of_le_of_lt (Nat.le_add_right dp k) hd) (Xs _ _ ho) rfl (T.nolimit.keeps F.keep) (codeRec_of Xs hcd) rfl (hbind s Xs) hcell hloc (fun h₁ hns hk₁ => ?_) hco hgen hk)
  refine wpAny_mono (h dp un gd (envX cn cs L a ccd cl :: outer) base s.heap h₁ (A₀.deeper (envX cn cs L a ccd cl)) s.heap.objs.size s (s.toks + binds.length) E hd hu hH B₁ Xs (T.keeps F.keep) ⟨hns, hk₁, Nat.le_refl _⟩ News.nil) (fun fl s' hl => ?_) fun _ _ y => y
  obtain ⟨h', tk', m', nx, rfl, F', N', r⟩ := hl
  obtain ⟨oL, es, ep, hL, hLd, hLk, hLf⟩ := F.ns
  refine hret _ nx h' tk' ⟨⟨oL, es, ep, F'.keep L oL hL, hLd, hLk, hLf⟩, fun b o e => F'.keep b o (F.keep b o e), F.above⟩ (fun p hp => ?_) F'.keep (fun p hp => (N' p hp).2.2) r
  rcases List.mem_append.mp hp with q | q
  · refine ⟨(N' p q).1, fun e => ?_, ?_⟩
    · have := (N' p q).2.2; rw [e, hL] at this; cases this
    · cases e : h₀.get? p.1 with
      | none => rfl
      | some o => have := (N' p q).2.2; rw [F.keep _ _ e] at this; cases this
  · exact ⟨F'.keep _ _ (N p q).1, (N p q).2⟩

theorem says_use {k : Nat} {w : World} {mean : ExcName → Option Value} {mg mb : Str → Option Value} {f : Addr} {vs : List Value} {H : Heap → Prop} {R : Value → List (Addr × Obj) → Prop}
    {dp un : Nat} {gd : Option (List Code)} {cn : Str} {cs : Scope} {a : Addr} {ccd : Value} {cl : List (Str × Addr)} {outer : List Env} {A₀ : Around} {base h₀ : Heap} {L : Addr} {m : Str → Option Value} {news : List (Addr × Obj)} {s : Shared} {Q E : Value → Shared → Prop}
    (C : Says k w mean mg mb f vs H R) (B : Below A₀ base outer h₀) (F : Fr h₀ L s.heap m) (X : (hd.heap_39 w.params).In h₀) (N : News h₀ L s.heap news) (T : Top hd.view_39 (looseW hd.view_39 LS) mean mg mb h₀) (hk : cs.kind = .function)
    (hd : dp + k < recursionLimit) (hu : un + 16 * k < cLine) (hH : H s.heap)
    (ret : ∀ v nx h' tk', Fr h₀ L h' m → News h₀ L h' (nx ++ news) → s.heap.StaysIn h' → (∀ p ∈ nx, s.heap.get? p.1 = none) → R v nx → Q v { s with heap := h', toks := tk' }) :
    wpAny (model PySem.Challenge.rw_dp5034_01.row.prog w) (ktrTop dp un gd cn cs L a ccd cl outer) (call (.ref f) vs) Q E s :=
  C _ _ _ _ _ _ _ _ _ _ _ _ _ _ _ _ _ _ B F X N T hk hd hu hH ret
end Mine

namespace Mine
open PySem.Calls
theorem punct_set (P : Params) (prog : Program) (w : World) : ∃ o, (hd.heap_39 P).lookup 29 = some o ∧ o.SetObjOf (intKind prog w) (fun k => decide (0 ≤ k) && mark k.toNat) 32 := by
  refine ⟨_, by k_is, ⟨rfl, rfl, rfl⟩, _, _, _, rfl, ?_, ?_, rfl, rfl⟩
  · show ∀ e ∈ _, _
    dsimp only [intKind]
    iterate 32 (refine List.forall_mem_cons.mpr ⟨⟨⟨_, isInt_self _ _, show (_ : Int) = hashInt _ by decide +kernel⟩, rfl⟩, ?_⟩)
    exact List.forall_mem_nil _
  · intro k
    rw [← List.any_eq_true]
    simp only [intKind, List.any_cons, List.any_nil, Value.isInt, Bool.or_false, mark]
    simp only [Bool.or_eq_true, Bool.and_eq_true, decide_eq_true_eq, beq_iff_eq]
    omega

section
variable {w : World} {A : Around} {E : Value → Shared → Prop} {s : Shared} {h₀ : Heap} {L : Addr} {m : Str → Option Value} {c : Nat} {t : Tok} {Q : Value → Shared → Prop}
theorem in_punct {prog : Program} (F : Fr h₀ L s.heap m) (X : (hd.heap_39 w.params).In h₀) (h : Q (.bool (mark c)) { s with toks := s.toks + 1 }) :
    wpAny (model prog w) A (compareOp .In (.int (c : Int) t) (.ref 29)) Q E s := by
  obtain ⟨o, e, S⟩ := punct_set w.params prog w
  exact in_argsetI F S (X _ _ e) (by decide) (by simpa using h)
end
end Mine

namespace Mine
open PySem.Calls
theorem code_says (w : World) (mean mg mb) (x : Str) (t : Tok) (i : Int) (u : Tok) (hx : x.length ≤ 1000) (h0 : 0 ≤ i) (h1 : i < x.length) :
    Says 2 w mean mg mb 21 [.str x t, .int i u] (fun _ => True) (fun v nx => nx = [] ∧ ∃ t', v = .int (cp x i) t') := by
  w_top off
  k_dflt (refine' says_of ?k6 ?k7 ?k9 ?kB ?h ?c2 ?c3 ?c4 ?c5; (case k6 => k_is); (case k7 => k_is); (case k9 => exact fun s X => BindsTo.of_eq rfl); (case kB => exact locs rfl); (case c2 => exact rfl); (case c3 => exact rfl); (case c4 => exact rfl); (case c5 => decide))
  intro dp un gd outer base g h₁ A₀ L' s tk E hd hu hH B X T F N
  (try k_fold)
  k_steps
  exact done F N ⟨rfl, _, by rw [ord_cp h0 h1]⟩
end Mine

namespace Mine
open PySem.Calls
local macro_rules | `(tactic| walk_at "compareOp In int ref") => `(tactic| (k_here; (with_reducible show wpAny _ _ (compareOp CmpOp.In (Value.int _ _) (Value.ref _)) _ _ _); k_dflt (refine' in_punct ?F ?X ?_; (case F => k_asm); (case X => k_asm); k_whole)))
theorem plain_says (w : World) (mean mg mb) (x : Str) (t : Tok) (hx : x.length ≤ 1000) :
    Says 2 w mean mg mb 109 [.str x t] (fun _ => True) (fun v nx => nx = [] ∧ ∃ t', v = .str (plainF x 0) t') := by
  w_top off
  k_dflt (refine' says_of ?k6 ?k7 ?k9 ?kB ?h ?c2 ?c3 ?c4 ?c5; (case k6 => k_is); (case k7 => k_is); (case k9 => exact fun s X => BindsTo.of_eq rfl); (case kB => exact locs rfl); (case c2 => exact rfl); (case c3 => exact rfl); (case c4 => exact rfl); (case c5 => decide))
  intro dp un gd outer base g h₁ A₀ L' s tk E hd hu hH B X T F N
  k_with "exec While Compare cons nil" => k_while (fun _ i out => 0 ≤ i ∧ i ≤ x.length ∧ out.length ≤ i ∧ Pl x i out) (fun _ i _ => x.length - i.toNat) "at" "out"
  k_with "state" => first | exact pl_start | exact pl_a (by assumption) (by assumption) (by assumption) (by assumption) (by assumption) | exact pl_b (by assumption) (by assumption) (by assumption) (by assumption) (by assumption) | exact pl_c (by assumption) (by assumption) (by assumption) (by assumption) (by assumption) (by assumption) | exact pl_d (by assumption) (by assumption) (by assumption) (by assumption) (by assumption) (by assumption) (by assumption)
  (try k_fold)
  k_steps
  all_goals (show Done _ _ _ _ _ _)
  exact done (by assumption) (by assumption) ⟨rfl, _, congrArg (Value.str · _) (pl_end (by assumption) (by assumption))⟩

theorem unesc_says (w : World) (mean mg mb) (x : Str) (t : Tok) (hx : x.length ≤ 1000) :
    Says 2 w mean mg mb 28 [.str x t] (fun _ => True) (fun v nx => nx = [] ∧ ∃ t', v = .str (plainF x 0) t') := by
  w_top off
  k_dflt (refine' says_of ?k6 ?k7 ?k9 ?kB ?h ?c2 ?c3 ?c4 ?c5; (case k6 => k_is); (case k7 => k_is); (case k9 => exact fun s X => BindsTo.of_eq rfl); (case kB => exact locs rfl); (case c2 => exact rfl); (case c3 => exact rfl); (case c4 => exact rfl); (case c5 => decide))
  intro dp un gd outer base g h₁ A₀ L' s tk E hd hu hH B X T F N
  k_with "exec While Compare cons nil" => k_while (fun _ i out => 0 ≤ i ∧ i ≤ x.length ∧ out.length ≤ i ∧ Pl x i out) (fun _ i _ => x.length - i.toNat) "pos" "result"
  k_with "state" => first | exact pl_start | exact pl_a (by assumption) (by assumption) (by assumption) (by assumption) (by assumption) | exact pl_b (by assumption) (by assumption) (by assumption) (by assumption) (by assumption) | exact pl_c' (by assumption) (by assumption) (by assumption) (by assumption) (by assumption) (by assumption) | exact pl_d' (by assumption) (by assumption) (by assumption) (by assumption) (by assumption) (by assumption) (by assumption)
  (try k_fold)
  k_steps
  all_goals (show Done _ _ _ _ _ _)
  all_goals first
    | exact done (by assumption) (by assumption) ⟨rfl, _, congrArg (Value.str · _) (pl_free (by assumption))⟩
    | exact done (by assumption) (by assumption) ⟨rfl, _, congrArg (Value.str · _) (pl_end (by assumption) (by assumption))⟩
end Mine

namespace Mine
open PySem.Calls
local macro_rules | `(tactic| walk_at "no key of the walk") => `(tactic| fail "no key")
local macro_rules | `(tactic| walk_at "call ref") => `(tactic| (k_here; (with_reducible show wpAny _ _ (call (Value.ref 109) [Value.str _ _]) _ _ _); k_dflt (refine' says_use (plain_says _ _ _ _ _ _ ?hx) ?k1 ?k2 ?k3 ?k4 ?k5 ?k6 ?k7 ?k8 trivial ?_; (case k1 => k_asm); (case k2 => k_asm); (case k3 => k_asm); (case k4 => k_asm); (case k5 => k_asm); (case k6 => exact rfl); (case k7 => omega); (case k8 => omega); (case hx => omega); k_whole); (intro v9 nx9 h9 tk9 F9 N9 q9 q9' r9; clear q9 q9'; obtain ⟨e9, t9, e9'⟩ := r9; subst e9; subst e9'; (try dsimp only [List.nil_append] at N9); (try k_sweep))))
theorem angle_says (w : World) (mean mg mb) (x : Str) (t : Tok) (i : Int) (u : Tok) (stop : Int) (u2 : Tok) (hx : x.length ≤ 1000) (h0 : 0 ≤ i) (h1 : i < x.length) (h2 : i ≤ stop) (h3 : stop ≤ x.length) :
    Says 3 w mean mg mb 116 [.str x t, .int i u, .int stop u2] (fun _ => True) (PairR (angleD x i stop)) := by
  w_top off
  k_dflt (refine' says_of ?k6 ?k7 ?k9 ?kB ?h ?c2 ?c3 ?c4 ?c5; (case k6 => k_is); (case k7 => k_is); (case k9 => exact fun s X => BindsTo.of_eq rfl); (case kB => exact locs rfl); (case c2 => exact rfl); (case c3 => exact rfl); (case c4 => exact rfl); (case c5 => decide))
  intro dp un gd outer base g h₁ A₀ L' s tk E hd hu hH B X T F N
  k_with "exec While Compare cons nil" => k_while (fun _ j => i + 1 ≤ j ∧ (j ≤ stop ∨ j = i + 1) ∧ angleF x stop j = angleF x stop (i + 1)) (fun _ j => stop.toNat - j.toNat) "at"
  k_with "state" => first | exact an_start | exact an_two (by assumption) (by assumption) (by assumption) (by assumption) (by assumption) (by assumption) (by assumption) | exact an_oneA (by assumption) (by assumption) (by assumption) (by assumption) (by assumption) (by assumption) (by assumption) (by assumption) (by assumption) | exact an_oneB (by assumption) (by assumption) (by assumption) (by assumption) (by assumption) (by assumption) (by assumption) (by assumption) (by assumption)
  (try k_fold)
  k_steps
  all_goals (try show Done _ _ _ _ _ _)
  all_goals first
    | exact done (by assumption) (by assumption) (pair_none (angleD_none (an_nl (by assumption) (by assumption) (by assumption) (by assumption) (by assumption) (by assumption))))
    | exact done (by assumption) (by assumption) (pair_none (angleD_none (an_lt (by assumption) (by assumption) (by assumption) (by assumption) (by assumption) (by assumption))))
    | exact done (by assumption) (by assumption) (pair_none (angleD_none (an_end (by assumption) (by assumption))))
    | exact done (by assumption) (by assumption) (pair_some (angleD_some (an_gt (by assumption) (by assumption) (by assumption) (by assumption) (by assumption) (by assumption))))
end Mine

namespace Mine
open PySem.Calls
local macro_rules | `(tactic| walk_at "call ref") => `(tactic| (k_here; (with_reducible show wpAny _ _ (call (Value.ref 109) [Value.str _ _]) _ _ _); k_dflt (refine' says_use (plain_says _ _ _ _ _ _ ?hx) ?k1 ?k2 ?k3 ?k4 ?k5 ?k6 ?k7 ?k8 trivial ?_; (case k1 => k_asm); (case k2 => k_asm); (case k3 => k_asm); (case k4 => k_asm); (case k5 => k_asm); (case k6 => exact rfl); (case k7 => omega); (case k8 => omega); (case hx => omega); k_whole); (intro v9 nx9 h9 tk9 F9 N9 q9 q9' r9; clear q9 q9'; obtain ⟨e9, t9, e9'⟩ := r9; subst e9; subst e9'; (try dsimp only [List.nil_append] at N9); (try k_sweep))))
theorem bare_says (w : World) (mean mg mb) (x : Str) (t : Tok) (i : Int) (u : Tok) (stop : Int) (u2 : Tok) (hx : x.length ≤ 1000) (h0 : 0 ≤ i) (h1 : i < x.length) (h2 : i ≤ stop) (h3 : stop ≤ x.length) :
    Says 3 w mean mg mb 123 [.str x t, .int i u, .int stop u2] (fun _ => True) (PairR (bareD x i stop)) := by
  w_top off
  k_dflt (refine' says_of ?k6 ?k7 ?k9 ?kB ?h ?c2 ?c3 ?c4 ?c5; (case k6 => k_is); (case k7 => k_is); (case k9 => exact fun s X => BindsTo.of_eq rfl); (case kB => exact locs rfl); (case c2 => exact rfl); (case c3 => exact rfl); (case c4 => exact rfl); (case c5 => decide))
  intro dp un gd outer base g h₁ A₀ L' s tk E hd hu hH B X T F N
  k_with "exec While Compare cons nil" => k_while (fun _ j deep => i ≤ j ∧ j ≤ stop ∧ 0 ≤ deep ∧ deep ≤ 32 ∧ bareF x stop j deep = bareF x stop i 0) (fun _ j _ => stop.toNat - j.toNat) "at" "deep"
  k_with "state" => first | exact ba_start (by assumption) | exact ba_two (by assumption) (by assumption) (by assumption) (by assumption) (by assumption) (by assumption) (by assumption) (by assumption) (by assumption) (by assumption) | exact absurd (ba_both (by assumption) (by assumption) (by assumption) (by assumption) (by assumption) (by assumption)) id | exact ba_open (by assumption) (by assumption) (by assumption) (by assumption) (by assumption) (by assumption) (by assumption) (by assumption) | exact ba_shut (by assumption) (by assumption) (by assumption) (by assumption) (by assumption) (by assumption) (by assumption) (by assumption) (by assumption) | exact ba_one (by assumption) (by assumption) (by assumption) (by assumption) (by assumption) (by assumption) (by assumption) (by assumption) (by assumption) (by assumption) (by first | exact .inl (by assumption) | exact .inr (by assumption)) (by assumption) (by assumption)
  (try k_fold)
  k_steps
  all_goals (try show Done _ _ _ _ _ _)
  all_goals first
    | (exfalso; exact ba_both (by assumption) (by assumption) (by assumption) (by assumption) (by assumption) (by assumption))
    | exact done (by assumption) (by assumption) (pair_none (bd_over (br_over (by assumption) (by assumption) (by assumption) (by assumption) (by assumption) (by assumption) (by assumption))))
    | ((have e9 : bareF x stop i 0 = some (_, _) := (by first | exact br_end (by assumption) (by assumption) | exact br_sp (by assumption) (by assumption) (by assumption) (by assumption) (by assumption) (by assumption) | exact br_lt (by assumption) (by assumption) (by assumption) (by assumption) (by assumption) (by assumption) | exact br_del (by assumption) (by assumption) (by assumption) (by assumption) (by assumption) (by assumption) | exact br_slash (by assumption) (by assumption) (by assumption) (by assumption) (by assumption) (by assumption) (by assumption) (by assumption) | exact br_shut (by assumption) (by assumption) (by assumption) (by assumption) (by assumption) (by assumption) (by assumption))); first
        | exact done (by assumption) (by assumption) (pair_none (bd_same e9 (by assumption)))
        | exact done (by assumption) (by assumption) (pair_none (bd_open e9 (by assumption)))
        | exact done (by assumption) (by assumption) (pair_some (bd_some e9 (by assumption) (by assumption))))
end Mine

namespace Mine
open PySem.Calls
local macro_rules | `(tactic| walk_at "no key of the walk") => `(tactic| fail "no key")
theorem done1 {s : Shared} {g : Heap} {L' : Addr} {R : Value → List (Addr × Obj) → Prop} {v : Value} {h' : Heap} {tk' : Nat} {m' : Str → Option Value} {p : Addr × Obj} {nx : List (Addr × Obj)}
    (F : Fr g L' h' m') (N : News g L' h' (p :: nx)) (r : R v [p]) : Done s g L' R v { s with heap := h', toks := tk' } :=
  ⟨h', tk', m', [p], rfl, F, fun q hq => N q (by rw [List.mem_singleton.mp hq]; exact .head _), r⟩
local macro_rules | `(tactic| walk_at "call ref") => `(tactic| (k_here; (with_reducible show wpAny _ _ (call (Value.ref 109) [Value.str _ _]) _ _ _); k_dflt (refine' says_use (plain_says _ _ _ _ _ _ ?hx) ?k1 ?k2 ?k3 ?k4 ?k5 ?k6 ?k7 ?k8 trivial ?_; (case k1 => k_asm); (case k2 => k_asm); (case k3 => k_asm); (case k4 => k_asm); (case k5 => k_asm); (case k6 => exact rfl); (case k7 => omega); (case k8 => omega); (case hx => omega); k_whole); (intro v9 nx9 h9 tk9 F9 N9 q9 q9' r9; clear q9 q9'; obtain ⟨e9, t9, e9'⟩ := r9; subst e9; subst e9'; (try dsimp only [List.nil_append] at N9); (try k_sweep))))
theorem title_says (w : World) (mean mg mb) (x : Str) (t : Tok) (i : Int) (u : Tok) (stop : Int) (u2 : Tok) (hx : x.length ≤ 1000) (h0 : 0 ≤ i) (h1 : i < x.length) (h2 : i ≤ stop) (h3 : stop ≤ x.length) :
    Says 3 w mean mg mb 130 [.str x t, .int i u, .int stop u2] (fun _ => True) (ToldR (titleD x i stop)) := by
  w_top off
  k_dflt (refine' says_of ?k6 ?k7 ?k9 ?kB ?h ?c2 ?c3 ?c4 ?c5; (case k6 => k_is); (case k7 => k_is); (case k9 => exact fun s X => BindsTo.of_eq rfl); (case kB => exact locs rfl); (case c2 => exact rfl); (case c3 => exact rfl); (case c4 => exact rfl); (case c5 => decide))
  intro dp un gd outer base g h₁ A₀ L' s tk E hd hu hH B X T F N
  k_with "exec While Compare cons nil" => k_while (fun _ j => i + 1 ≤ j ∧ j ≤ stop ∧ titleF x stop (shutF x i) j = titleF x stop (shutF x i) (i + 1)) (fun _ j => stop.toNat - j.toNat) "at"
  k_with "state" => first | exact ti_start (by assumption) | exact ti_two (by assumption) (by assumption) (by assumption) (by first | exact neA (by assumption) (by assumption) (by assumption) (by assumption) (by assumption) (by assumption) (by assumption) | exact neB (by assumption) (by assumption) (by assumption) (by assumption) (by assumption) (by assumption) (by assumption)) (by first | exact noC (by assumption) (by assumption) (by assumption) (by assumption) (by assumption) | exact noI (by assumption) (by assumption) (by assumption) (by assumption)) (by assumption) (by assumption) (by assumption) (by assumption) | exact ti_one (by assumption) (by assumption) (by assumption) (by first | exact neA (by assumption) (by assumption) (by assumption) (by assumption) (by assumption) (by assumption) (by assumption) | exact neB (by assumption) (by assumption) (by assumption) (by assumption) (by assumption) (by assumption) (by assumption)) (by first | exact noC (by assumption) (by assumption) (by assumption) (by assumption) (by assumption) | exact noI (by assumption) (by assumption) (by assumption) (by assumption)) (by assumption) (by assumption) (by first | exact .inl (by assumption) | exact .inr (by assumption))
  (try k_fold)
  k_steps
  all_goals (try show Done _ _ _ _ _ _)
  all_goals first
    | exact done1 (by assumption) (by assumption) (told_no (td_no0 (by assumption)))
    | exact done1 (by assumption) (by assumption) (told_no (td_noA (by assumption) (by assumption) (by assumption)))
    | exact done1 (by assumption) (by assumption) (told_ok (td_ok (td_in (by assumption) (by assumption) (by assumption) (by assumption)) (by assumption) (by assumption) (by first | exact eqA (by assumption) (by assumption) (by assumption) (by assumption) (by assumption) (by assumption) (by assumption) | exact eqB (by assumption) (by assumption) (by assumption) (by assumption) (by assumption) (by assumption) (by assumption))))
    | exact done1 (by assumption) (by assumption) (told_more (td_more (td_in (by assumption) (by assumption) (by assumption) (by assumption)) (by assumption) (by assumption)))
    | exact done1 (by assumption) (by assumption) (told_no (td_no (td_in (by assumption) (by assumption) (by assumption) (by assumption)) (by assumption) (by assumption) (by first | exact neA (by assumption) (by assumption) (by assumption) (by assumption) (by assumption) (by assumption) (by assumption) | exact neB (by assumption) (by assumption) (by assumption) (by assumption) (by assumption) (by assumption) (by assumption)) (by first | exact yesA (by assumption) (by assumption) (by assumption) (by assumption) (by assumption) (by assumption) (by assumption) | exact yesB (by assumption) (by assumption) (by assumption) (by assumption) (by assumption) (by assumption) (by assumption) (by assumption))))
end Mine

namespace Mine
open PySem.Calls
local macro_rules | `(tactic| walk_at "no key of the walk") => `(tactic| fail "no key")
local macro_rules | `(tactic| k_room) => `(tactic| ktr_room)
local macro_rules | `(tactic| k_units) => `(tactic| ktr_units)
local macro_rules | `(tactic| walk_at "call ref") => `(tactic| (k_here; (with_reducible show wpAny _ _ (call (Value.ref 28) [Value.str _ _]) _ _ _); k_dflt (refine' says_use (unesc_says _ _ _ _ _ _ ?hx) ?k1 ?k2 ?k3 ?k4 ?k5 ?k6 ?k7 ?k8 trivial ?_; (case k1 => k_asm); (case k2 => k_asm); (case k3 => k_asm); (case k4 => k_asm); (case k5 => k_asm); (case k6 => exact rfl); (case k7 => omega); (case k8 => omega); (case hx => omega); k_whole); (intro v9 nx9 h9 tk9 F9 N9 q9 q9' r9; clear q9 q9'; obtain ⟨e9, t9, e9'⟩ := r9; subst e9; subst e9'; (try dsimp only [List.nil_append] at N9); (try k_sweep))))
local macro_rules | `(tactic| walk_at "call ref") => `(tactic| (k_here; (with_reducible show wpAny _ _ (call (Value.ref 21) [Value.str _ _, Value.int _ _]) _ _ _); k_dflt (refine' says_use (code_says _ _ _ _ _ _ _ _ ?hx ?ha ?hb) ?k1 ?k2 ?k3 ?k4 ?k5 ?k6 ?k7 ?k8 trivial ?_; (case k1 => k_asm); (case k2 => k_asm); (case k3 => k_asm); (case k4 => k_asm); (case k5 => k_asm); (case k6 => exact rfl); (case k7 => omega); (case k8 => omega); (case hx => omega); (case ha => omega); (case hb => omega); k_whole); (intro v9 nx9 h9 tk9 F9 N9 q9 q9' r9; clear q9 q9'; obtain ⟨e9, t9, e9'⟩ := r9; subst e9; subst e9'; (try dsimp only [List.nil_append] at N9); (try k_sweep))))
theorem dest_says (w : World) (mean mg mb) (x : Str) (t : Tok) (i : Int) (u : Tok) (stop : Int) (u2 : Tok) (hx : x.length ≤ 1000) (h0 : 0 ≤ i) (h1 : i < x.length) (h2 : i ≤ stop) (h3 : stop ≤ x.length) :
    Says 5 w mean mg mb 60 [.str x t, .int i u, .int stop u2] (fun _ => True) (DestR (destD x i stop)) := by
  w_top off
  k_dflt (refine' says_of ?k6 ?k7 ?k9 ?kB ?h ?c2 ?c3 ?c4 ?c5; (case k6 => k_is); (case k7 => k_is); (case k9 => exact fun s X => BindsTo.of_eq rfl); (case kB => exact locs rfl); (case c2 => exact rfl); (case c3 => exact rfl); (case c4 => exact rfl); (case c5 => decide))
  intro dp un gd outer base g h₁ A₀ L' s tk E hd hu hH B X T F N
  k_with "exec While Compare cons nil" => k_while (fun _ j => i + 1 ≤ j ∧ (j ≤ stop ∨ j = i + 1) ∧ angleF x stop j = angleF x stop (i + 1)) (fun _ j => stop.toNat - j.toNat) "pos"
  k_with "exec While Compare cons nil" => k_while (fun _ j deep => i ≤ j ∧ j ≤ stop ∧ 0 ≤ deep ∧ deep ≤ 32 ∧ bareF x stop j deep = bareF x stop i 0) (fun _ j _ => stop.toNat - j.toNat) "pos" "level"
  k_with "state" => first | exact an_start | exact ba_start (by assumption) | exact ca_two (by assumption) (by assumption) (by assumption) (by assumption) (by assumption) | exact ca_one (by assumption) (by assumption) (by assumption) (by assumption) (by assumption) (by assumption) (by first | exact .inl (by assumption) | exact .inr (by assumption)) | exact cb_two (by assumption) (by assumption) (by assumption) (by assumption) (by assumption) (by assumption) (by assumption) (by assumption) | exact cb_open (by assumption) (by assumption) (by assumption) (by assumption) (by assumption) (by assumption) | exact cb_shut (by assumption) (by assumption) (by assumption) (by assumption) (by assumption) (by assumption) (by assumption) | exact cb_one (by assumption) (by assumption) (by assumption) (by assumption) (by assumption) (by assumption) (by assumption) (by assumption) (by assumption) (by assumption) (by first | exact .inl (by assumption) | exact .inr (by assumption))
  (try k_fold)
  k_steps
  all_goals (try show Done _ _ _ _ _ _)
  all_goals first
    | ((have e8 := dd_angle (stop := stop) (show ((cp x i : Nat) : Int) = 60 by assumption)); first
      | exact done (by assumption) (by assumption) (dest_none (e8.trans (angleD_none (ca_nl (by assumption) (by assumption) (by assumption)))))
      | exact done (by assumption) (by assumption) (dest_none (e8.trans (angleD_none (ca_lt (by assumption) (by assumption) (by assumption)))))
      | exact done (by assumption) (by assumption) (dest_none (e8.trans (angleD_none (an_end (by assumption) (by assumption)))))
      | exact done (by assumption) (by assumption) (dest_some (e8.trans (angleD_some (ca_gt (by assumption) (by assumption) (by assumption))))))
    | ((have e8 := dd_bare (stop := stop) (show ((cp x i : Nat) : Int) ≠ 60 by assumption)); first
      | exact done (by assumption) (by assumption) (dest_none (e8.trans (bd_over (ce_over (by assumption) (by assumption) (by assumption) (by assumption)))))
      | ((have e9 : bareF x stop i 0 = some (_, _) := (by first | exact br_end (by assumption) (by assumption) | exact ce_blank (by assumption) (by assumption) (by assumption) | exact ce_low (by assumption) (by assumption) (by assumption) | exact ce_del (by assumption) (by assumption) (by assumption) | exact ce_slash (by assumption) (by assumption) (by assumption) (by assumption) (by assumption) | exact ce_shut (by assumption) (by assumption) (by assumption) (by assumption))); first
        | exact done (by assumption) (by assumption) (dest_none (e8.trans (bd_same e9 (Eq.symm (by assumption)))))
        | exact done (by assumption) (by assumption) (dest_none (e8.trans (bd_open e9 (by assumption))))
        | exact done (by assumption) (by assumption) (dest_some (e8.trans (bd_some e9 (Ne.symm (by assumption)) (by assumption))))))
    | (exfalso; omega)
end Mine

namespace Mine
open PySem.Calls
local macro_rules | `(tactic| k_room) => `(tactic| ktr_room)
local macro_rules | `(tactic| k_units) => `(tactic| ktr_units)
theorem says_mono {k : Nat} {w : World} {mean : ExcName → Option Value} {mg mb : Str → Option Value} {f : Addr} {vs : List Value} {H : Heap → Prop} {R R' : Value → List (Addr × Obj) → Prop}
    (C : Says k w mean mg mb f vs H R) (h : ∀ v nx, R v nx → R' v nx) : Says k w mean mg mb f vs H R' :=
  fun _ _ _ _ _ _ _ _ _ _ _ _ _ _ _ _ _ _ B F X N T hk hd hu hH ret => C _ _ _ _ _ _ _ _ _ _ _ _ _ _ _ _ _ _ B F X N T hk hd hu hH fun v nx h' tk' F' N' a b r => ret v nx h' tk' F' N' a b (h v nx r)
theorem unesc_len (w : World) (mean mg mb) (x : Str) (t : Tok) (hx : x.length ≤ 1000) :
    Says 2 w mean mg mb 28 [.str x t] (fun _ => True) (fun v nx => nx = [] ∧ ∃ t', v = .str (plainF x 0) t' ∧ (plainF x 0).length ≤ x.length) :=
  says_mono (unesc_says w mean mg mb x t hx) fun _ _ r => ⟨r.1, r.2.choose, r.2.choose_spec, plainF_len0 x⟩
local macro_rules | `(tactic| walk_at "call ref") => `(tactic| (k_here; (with_reducible show wpAny _ _ (call (Value.ref 28) [Value.str _ _]) _ _ _); k_dflt (refine' says_use (unesc_len _ _ _ _ _ _ ?hx) ?k1 ?k2 ?k3 ?k4 ?k5 ?k6 ?k7 ?k8 trivial ?_; (case k1 => k_asm); (case k2 => k_asm); (case k3 => k_asm); (case k4 => k_asm); (case k5 => k_asm); (case k6 => exact rfl); (case k7 => omega); (case k8 => omega); (case hx => omega); k_whole); (intro v9 nx9 h9 tk9 F9 N9 q9 q9' r9; clear q9 q9'; obtain ⟨e9, t9, e9', len9⟩ := r9; subst e9; subst e9'; (try dsimp only [List.nil_append] at N9); (try k_sweep))))
local macro_rules | `(tactic| walk_at "call ref") => `(tactic| (k_here; (with_reducible show wpAny _ _ (call (Value.ref 21) [Value.str _ _, Value.int _ _]) _ _ _); k_dflt (refine' says_use (code_says _ _ _ _ _ _ _ _ ?hx ?ha ?hb) ?k1 ?k2 ?k3 ?k4 ?k5 ?k6 ?k7 ?k8 trivial ?_; (case k1 => k_asm); (case k2 => k_asm); (case k3 => k_asm); (case k4 => k_asm); (case k5 => k_asm); (case k6 => exact rfl); (case k7 => omega); (case k8 => omega); (case hx => omega); (case ha => omega); (case hb => omega); k_whole); (intro v9 nx9 h9 tk9 F9 N9 q9 q9' r9; clear q9 q9'; obtain ⟨e9, t9, e9'⟩ := r9; subst e9; subst e9'; (try dsimp only [List.nil_append] at N9); (try k_sweep))))
theorem ctitle_says (w : World) (mean mg mb) (x : Str) (t : Tok) (i : Int) (u : Tok) (stop : Int) (u2 : Tok) (hx : x.length ≤ 1000) (h0 : 0 ≤ i) (h1 : i < x.length) (h2 : i ≤ stop) (h3 : stop ≤ x.length) :
    Says 5 w mean mg mb 101 [.str x t, .int i u, .int stop u2] (fun _ => True) (StateR (titleD x i stop)) := by
  w_top off
  k_dflt (refine' says_of ?k6 ?k7 ?k9 ?kB ?h ?c2 ?c3 ?c4 ?c5; (case k6 => k_is); (case k7 => k_is); (case k9 => exact fun s X => binds_K X rfl (by k_is) rfl rfl rfl); (case kB => exact locs rfl); (case c2 => exact rfl); (case c3 => exact rfl); (case c4 => exact rfl); (case c5 => decide))
  intro dp un gd outer base g h₁ A₀ L' s tk E hd hu hH B X T F N
  k_with "exec While Compare cons nil" => k_while (fun _ j => i + 1 ≤ j ∧ j ≤ stop ∧ titleF x stop (shutF x i) j = titleF x stop (shutF x i) (i + 1)) (fun _ j => stop.toNat - j.toNat) "pos"
  k_with "state" => first | exact ti_start (by assumption) | exact ct_two (by assumption) (by assumption) (by assumption) (by first | exact cneA (by assumption) (by assumption) | exact cneB (by assumption) (by assumption)) (by first | exact cnoA (by assumption) | exact cnoB (by assumption) (by assumption)) (by assumption) (by assumption) | exact ct_one (by assumption) (by assumption) (by assumption) (by first | exact cneA (by assumption) (by assumption) | exact cneB (by assumption) (by assumption)) (by first | exact cnoA (by assumption) | exact cnoB (by assumption) (by assumption)) (by first | exact .inl (by assumption) | exact .inr (by assumption)) | (exfalso; omega)
  (try k_fold)
  k_steps
  all_goals (try show Done _ _ _ _ _ _)
  all_goals first
    | exact done (by assumption) (by assumption) (state_no (td_no0 (by assumption)))
    | exact done (by assumption) (by assumption) (state_no (cd_noA (by assumption) (by assumption) (by assumption)))
    | exact done (by assumption) (by assumption) (state_ok (td_ok (show i < stop ∧ (cp x i = 34 ∨ cp x i = 39 ∨ cp x i = 40) from ⟨by omega, by omega⟩) (by assumption) (by assumption) (by first | exact ceqA (by assumption) (by assumption) | exact ceqB (by assumption) (by assumption))))
    | exact done (by assumption) (by assumption) (state_more (td_more' (show i < stop ∧ (cp x i = 34 ∨ cp x i = 39 ∨ cp x i = 40) from ⟨by omega, by omega⟩) (by assumption) (by assumption) (by assumption)))
    | exact done (by assumption) (by assumption) (state_no (td_no (show i < stop ∧ (cp x i = 34 ∨ cp x i = 39 ∨ cp x i = 40) from ⟨by omega, by omega⟩) (by assumption) (by assumption) (by first | exact cneA (by assumption) (by assumption) | exact cneB (by assumption) (by assumption)) (by first | exact cyesA (by assumption) (by assumption) | exact cyesB (by assumption) (by assumption) (by assumption))))
    | (exfalso; omega)
end Mine

namespace Mine
open PySem.Calls
local macro_rules | `(tactic| k_room) => `(tactic| ktr_room)
local macro_rules | `(tactic| k_units) => `(tactic| ktr_units)
local macro_rules | `(tactic| walk_at "call ref") => `(tactic| (k_here; (with_reducible show wpAny _ _ (call (Value.ref 116) [Value.str _ _, Value.int _ _, Value.int _ _]) _ _ _); k_dflt (refine' says_use (angle_says _ _ _ _ _ _ _ _ _ _ ?hx ?ha ?hb ?hc ?hd) ?k1 ?k2 ?k3 ?k4 ?k5 ?k6 ?k7 ?k8 trivial ?_; (case k1 => k_asm); (case k2 => k_asm); (case k3 => k_asm); (case k4 => k_asm); (case k5 => k_asm); (case k6 => exact rfl); (case k7 => omega); (case k8 => omega); (case hx => omega); (case ha => omega); (case hb => omega); (case hc => omega); (case hd => omega); k_whole); (intro v9 nx9 h9 tk9 F9 N9 q9 q9' r9; clear q9 q9'; (first | (obtain ⟨f9, e9, e9'⟩ | ⟨y9, p9, r9', t9, t9', f9, e9, e9'⟩ := pair_cases r9) | skip); (case' inr => have o9 := ok_angle (by assumption) f9); all_goals (clear r9; subst e9; subst e9'; (try dsimp only [List.nil_append, List.cons_append] at N9); (try k_sweep)))))
local macro_rules | `(tactic| walk_at "call ref") => `(tactic| (k_here; (with_reducible show wpAny _ _ (call (Value.ref 123) [Value.str _ _, Value.int _ _, Value.int _ _]) _ _ _); k_dflt (refine' says_use (bare_says _ _ _ _ _ _ _ _ _ _ ?hx ?ha ?hb ?hc ?hd) ?k1 ?k2 ?k3 ?k4 ?k5 ?k6 ?k7 ?k8 trivial ?_; (case k1 => k_asm); (case k2 => k_asm); (case k3 => k_asm); (case k4 => k_asm); (case k5 => k_asm); (case k6 => exact rfl); (case k7 => omega); (case k8 => omega); (case hx => omega); (case ha => omega); (case hb => omega); (case hc => omega); (case hd => omega); k_whole); (intro v9 nx9 h9 tk9 F9 N9 q9 q9' r9; clear q9 q9'; (first | (obtain ⟨f9, e9, e9'⟩ | ⟨y9, p9, r9', t9, t9', f9, e9, e9'⟩ := pair_cases r9) | skip); (case' inr => have o9 := ok_bare (by assumption) f9); all_goals (clear r9; subst e9; subst e9'; (try dsimp only [List.nil_append, List.cons_append] at N9); (try k_sweep)))))
local macro_rules | `(tactic| walk_at "call ref") => `(tactic| (k_here; (with_reducible show wpAny _ _ (call (Value.ref 60) [Value.str _ _, Value.int _ _, Value.int _ _]) _ _ _); k_dflt (refine' says_use (dest_says _ _ _ _ _ _ _ _ _ _ ?hx ?ha ?hb ?hc ?hd) ?k1 ?k2 ?k3 ?k4 ?k5 ?k6 ?k7 ?k8 trivial ?_; (case k1 => k_asm); (case k2 => k_asm); (case k3 => k_asm); (case k4 => k_asm); (case k5 => k_asm); (case k6 => exact rfl); (case k7 => omega); (case k8 => omega); (case hx => omega); (case ha => omega); (case hb => omega); (case hc => omega); (case hd => omega); k_whole); (intro v9 nx9 h9 tk9 F9 N9 q9 q9' r9; clear q9 q9'; first | ((have e8 : destD _ _ _ = none := (by first | exact dd_a (by assumption) (by assumption) (by assumption) (by assumption) | exact dd_b (by assumption) (by assumption) (by assumption) (by assumption))); obtain ⟨r9', d9, t9, t9', e9, e9'⟩ := dest_none_of e8 r9; clear r9; subst e9; subst e9'; (try dsimp only [List.nil_append, List.cons_append] at N9); (try k_sweep)) | ((have e8 : destD _ _ _ = some (_, _) := (by first | exact dd_a (by assumption) (by assumption) (by assumption) (by assumption) | exact dd_b (by assumption) (by assumption) (by assumption) (by assumption))); obtain ⟨r9', d9, t9, t9', e9, e9'⟩ := dest_some_of e8 r9; clear r9; subst e9; subst e9'; (try dsimp only [List.nil_append, List.cons_append] at N9); (try k_sweep)))))
local macro_rules | `(tactic| walk_at "call ref") => `(tactic| (k_here; (with_reducible show wpAny _ _ (call (Value.ref 101) [Value.str _ _, Value.int _ _, Value.int _ _]) _ _ _); k_dflt (refine' says_use (ctitle_says _ _ _ _ _ _ _ _ _ _ ?hx ?ha ?hb ?hc ?hd) ?k1 ?k2 ?k3 ?k4 ?k5 ?k6 ?k7 ?k8 trivial ?_; (case k1 => k_asm); (case k2 => k_asm); (case k3 => k_asm); (case k4 => k_asm); (case k5 => k_asm); (case k6 => exact rfl); (case k7 => omega); (case k8 => omega); (case hx => omega); (case ha => omega); (case hb => omega); (case hc => omega); (case hd => omega); k_whole); (intro v9 nx9 h9 tk9 F9 N9 q9 q9' r9; clear q9 q9'; obtain ⟨f9, r9', d9, m9, t9, t9', t9'', e9, e9'⟩ | ⟨y9, f9, r9', d9, m9, t9, t9', t9'', e9, e9'⟩ | ⟨y9, p9, f9, r9', d9, m9, t9, t9', t9'', e9, e9'⟩ := state_cases r9 <;> (try (have o9 := ok_more (by assumption) f9)) <;> (try (have o9 := ok_ok (by assumption) f9)) <;> clear r9 <;> subst e9 <;> subst e9' <;> ((try dsimp only [List.nil_append, List.cons_append] at N9); (try k_sweep)))))
local macro_rules | `(tactic| walk_at "call ref") => `(tactic| (k_here; (with_reducible show wpAny _ _ (call (Value.ref 130) [Value.str _ _, Value.int _ _, Value.int _ _]) _ _ _); k_dflt (refine' says_use (title_says _ _ _ _ _ _ _ _ _ _ ?hx ?ha ?hb ?hc ?hd) ?k1 ?k2 ?k3 ?k4 ?k5 ?k6 ?k7 ?k8 trivial ?_; (case k1 => k_asm); (case k2 => k_asm); (case k3 => k_asm); (case k4 => k_asm); (case k5 => k_asm); (case k6 => exact rfl); (case k7 => omega); (case k8 => omega); (case hx => omega); (case ha => omega); (case hb => omega); (case hc => omega); (case hd => omega); k_whole); (intro v9 nx9 h9 tk9 F9 N9 q9 q9' r9; clear q9 q9'; first | ((with_reducible rename titleD _ _ _ = TD.no => e8); obtain ⟨r9', t9, e9, e9'⟩ := told_no_of e8 r9; clear r9; subst e9; subst e9'; (try dsimp only [List.nil_append, List.cons_append] at N9); (try k_sweep)) | ((with_reducible rename titleD _ _ _ = TD.more _ => e8); obtain ⟨r9', t9, t9', e9, e9'⟩ := told_more_of e8 r9; clear r9; subst e9; subst e9'; (try dsimp only [List.nil_append, List.cons_append] at N9); (try k_sweep)) | ((with_reducible rename titleD _ _ _ = TD.ok _ _ => e8); obtain ⟨r9', t9, t9', t9'', e9, e9'⟩ := told_ok_of e8 r9; clear r9; subst e9; subst e9'; (try dsimp only [List.nil_append, List.cons_append] at N9); (try k_sweep)))))
local macro_rules | `(tactic| walk_at "compareOp NotEq ref ref") => `(tactic| (k_here; (with_reducible show wpAny _ _ (compareOp CmpOp.NotEq (Value.ref _) (Value.ref _)) _ _ _); k_dflt (refine' ne_bsi ?N ?a ?b ?o ?u ?_; (case N => k_asm); (case a => k_mem); (case b => k_mem); (case o => first | assumption | exact ok_e); (case u => ktr_units); k_whole)))
local macro_rules | `(tactic| walk_at "compareOp Eq ref ref") => `(tactic| (k_here; (with_reducible show wpAny _ _ (compareOp CmpOp.Eq (Value.ref _) (Value.ref _)) _ _ _); k_dflt (refine' eq_s ?N ?a ?b ?o0 ?u ?_; (case N => k_asm); (case a => k_mem); (case b => k_mem); (case o0 => exact ok_no); (case u => ktr_units); k_whole)))
local macro_rules | `(tactic| walk_at "compareOp Eq ref ref") => `(tactic| (k_here; (with_reducible show wpAny _ _ (compareOp CmpOp.Eq (Value.ref _) (Value.ref _)) _ _ _); k_dflt (refine' eq_ss ?N ?a ?b ?o0 ?o1 ?u ?_; (case N => k_asm); (case a => k_mem); (case b => k_mem); (case o0 => exact ok_m); (case o1 => assumption); (case u => ktr_units); k_whole)))
local macro_rules | `(tactic| walk_at "compareOp Eq ref ref") => `(tactic| (k_here; (with_reducible show wpAny _ _ (compareOp CmpOp.Eq (Value.ref _) (Value.ref _)) _ _ _); k_dflt (refine' eq_ssi ?N ?a ?b ?o0 ?o1 ?u ?_; (case N => k_asm); (case a => k_mem); (case b => k_mem); (case o0 => exact ok_k); (case o1 => assumption); (case u => ktr_units); k_whole)))
local macro_rules | `(tactic| walk_at "subscriptTail Name Constant ref int") => `(tactic| (k_here; (with_reducible show wpAny _ _ (subscriptTail (PySem.Expr.Name (Str.ofString "due") _) _ (Value.ref _) (Value.int _ _)) _ _ _); k_dflt (refine' pick ?N ?a ?h0 ?h1 ?hx ?_ ?s; (case N => k_asm); (case a => k_mem); (case h0 => decide); (case h1 => decide); (case hx => rfl); (case s => with_unfolding_all rfl); k_whole)))
theorem place_says (w : World) (mean mg mb) (x : Str) (t : Tok) (i : Int) (u : Tok) (stop : Int) (u2 : Tok) (hv : Ok x) (hx : x.length ≤ 1000) (h0 : 0 ≤ i) (h1 : i < x.length) (h2 : i ≤ stop) (h3 : stop ≤ x.length) :
    Says 8 w mean mg mb 144 [.str x t, .int i u, .int stop u2] (fun _ => True) (fun v nx => v = .bool true ∧ nx = []) := by
  w_top off
  k_dflt (refine' says_of ?k6 ?k7 ?k9 ?kB ?h ?c2 ?c3 ?c4 ?c5; (case k6 => k_is); (case k7 => k_is); (case k9 => exact fun s X => BindsTo.of_eq rfl); (case kB => exact locs rfl); (case c2 => exact rfl); (case c3 => exact rfl); (case c4 => exact rfl); (case c5 => decide))
  intro dp un gd outer base g h₁ A₀ L' s tk E hd hu hH B X T F N
  (try k_fold)
  k_steps
  all_goals (try show Done _ _ _ _ _ _)
  all_goals exact done (by assumption) News.nil ⟨rfl, rfl⟩
end Mine

namespace Mine
open PySem.Calls
local macro_rules | `(tactic| walk_at "no key of the walk") => `(tactic| fail "no key")
theorem most_says (w : World) (mean mg mb) (t u u2 : Tok) : Says 5 w mean mg mb 60 [.str Mst t, .int 0 u, .int ((65 : Nat) : Int) u2] (fun _ => True) (DestR (some (Mst, 65))) := by
  have h := dest_says w mean mg mb Mst t 0 u ((65 : Nat) : Int) u2 (by decide +kernel) (by decide) (by decide +kernel) (by decide) (by decide +kernel)
  rw [mst_dest] at h; exact h
theorem over_says (w : World) (mean mg mb) (t u u2 : Tok) : Says 5 w mean mg mb 60 [.str Ovr t, .int 0 u, .int ((67 : Nat) : Int) u2] (fun _ => True) (DestR none) := by
  have h := dest_says w mean mg mb Ovr t 0 u ((67 : Nat) : Int) u2 (by decide +kernel) (by decide) (by decide +kernel) (by decide) (by decide +kernel)
  rw [ovr_dest] at h; exact h
local macro_rules | `(tactic| walk_at "binaryOp Add str str") => `(tactic| (k_here; (with_reducible refine' add_a ?_); (intro t9 k9)))
local macro_rules | `(tactic| walk_at "binaryOp Add str str") => `(tactic| (k_here; (with_reducible refine' add_b ?e ?l ?_); (case e => assumption); (case l => assumption); (intro t9 k9)))
local macro_rules | `(tactic| walk_at "binaryOp Add str str") => `(tactic| (k_here; (with_reducible refine' add_c ?e ?l ?_); (case e => assumption); (case l => assumption); (intro t9 k9)))
local macro_rules | `(tactic| walk_at "pyIter ref") => `(tactic| ((with_reducible show wpAny _ _ (pyIter (Value.ref _)) (fun it s₂ => LoopAtV _ _ _ _ _ (Str.ofString "start") _ _ _ it s₂) _ _); first | k_search (fun _ => True) | ((k_dflt ((rename News _ _ _ _ => lN9); (have h9 := ints4_of lN9 (by k_mem)))); k_search (fun _ => True))))
local macro_rules | `(tactic| walk_at "pyIter ref") => `(tactic| (k_here; (with_reducible show wpAny _ _ (pyIter (Value.ref _)) (fun it s₂ => TurnsAt _ _ _ _ _ _ _ _ _ it s₂) _ _); (rename Fr _ _ _ _ => lF'); (rename News _ _ _ _ => lN'); (with_unfolding_all refine' two_turns (Str.ofString "end") ?hh lF' lN' ?hm ?hc ?hd ?_ ?_ ?_); (case hh => with_unfolding_all rfl); (case hm => k_mem); (case hc => rfl); (case hd => rfl); (all_goals (clear lF' lN')); (all_goals (intro u9 h9 tk9 its9 F9 N9)); (all_goals (try k_fold))))
local macro_rules | `(tactic| walk_at "TwoPost") => `(tactic| (dsimp only [TwoPost]))
local macro_rules | `(tactic| walk_at "TwoEnd") => `(tactic| (exact two_end (by assumption) (by assumption) (by intro z hz; first | (simp only [if_neg hz]; done) | (simp [hz]; done))))
local macro_rules | `(tactic| walk_at "call ref") => `(tactic| (k_here; (with_reducible show wpAny _ _ (call (Value.ref 144) [Value.str _ _, Value.int _ _, Value.int _ _]) _ _ _); k_dflt (refine' says_use (place_says _ _ _ _ _ _ _ _ _ _ ?hv ?hx ?ha ?hb ?hc ?hd) ?k1 ?k2 ?k3 ?k4 ?k5 ?k6 ?k7 ?k8 trivial ?_; (case k1 => k_asm); (case k2 => k_asm); (case k3 => k_asm); (case k4 => k_asm); (case k5 => k_asm); (case k6 => exact rfl); (case k7 => first | omega | decide); (case k8 => first | omega | decide); (case hv => first | assumption | exact ok_lit); (case hx => first | omega | exact Nat.le_trans (Nat.le_of_eq len_lit) (by decide)); (case ha => first | omega | exact ge4d (by assumption) (by omega) | exact geR (by assumption)); (case hb => first | omega | ((have hl9 := len_lit); omega)); (case hc => first | omega | exact max_lo); (case hd => first | omega | ((have hl9 := len_lit); omega) | exact max_hi (by omega) | (rw [len_lit]; exact max_hi (by omega))); k_whole); (intro v9 nx9 h9 tk9 F9 N9 q9 q9' r9; clear q9 q9'; obtain ⟨e9, e9'⟩ := r9; subst e9; subst e9'; (try dsimp only [List.nil_append, List.cons_append] at N9); (try k_sweep))))
local macro_rules | `(tactic| walk_at "call ref") => `(tactic| (k_here; (with_reducible show wpAny _ _ (call (Value.ref 60) [Value.str (Str.ofString "((((((((((((((((((((((((((((((((a))))))))))))))))))))))))))))))))") _, Value.int _ _, Value.int _ _]) _ _ _); k_dflt (refine' says_use (most_says _ _ _ _ _ _ _) ?k1 ?k2 ?k3 ?k4 ?k5 ?k6 ?k7 ?k8 trivial ?_; (case k1 => k_asm); (case k2 => k_asm); (case k3 => k_asm); (case k4 => k_asm); (case k5 => k_asm); (case k6 => exact rfl); (case k7 => first | omega | decide); (case k8 => first | omega | decide); k_whole); (intro v9 nx9 h9 tk9 F9 N9 q9 q9' r9; clear q9 q9'; obtain ⟨r9', d9, t9, t9', e9, e9'⟩ := dest_some_of rfl r9; clear r9; subst e9; subst e9'; (try dsimp only [List.nil_append, List.cons_append] at N9); (try k_sweep))))
local macro_rules | `(tactic| walk_at "call ref") => `(tactic| (k_here; (with_reducible show wpAny _ _ (call (Value.ref 60) [Value.str (Str.ofString "(((((((((((((((((((((((((((((((((a)))))))))))))))))))))))))))))))))") _, Value.int _ _, Value.int _ _]) _ _ _); k_dflt (refine' says_use (over_says _ _ _ _ _ _ _) ?k1 ?k2 ?k3 ?k4 ?k5 ?k6 ?k7 ?k8 trivial ?_; (case k1 => k_asm); (case k2 => k_asm); (case k3 => k_asm); (case k4 => k_asm); (case k5 => k_asm); (case k6 => exact rfl); (case k7 => first | omega | decide); (case k8 => first | omega | decide); k_whole); (intro v9 nx9 h9 tk9 F9 N9 q9 q9' r9; clear q9 q9'; obtain ⟨r9', d9, t9, t9', e9, e9'⟩ := dest_none_of rfl r9; clear r9; subst e9; subst e9'; (try dsimp only [List.nil_append, List.cons_append] at N9); (try k_sweep))))
theorem law_holds : PySem.Challenge.rw_dp5034_01.Holds := hd (by
  w_strict (k_go0; (all_goals try k_fold))
  k_with "pyIter ref" => (k_of "n" => k_state (fun pre line runs => Ok line ∧ line.length ≤ 69 * pre.length ∧ 0 ≤ runs) "line" "runs")
  k_with "state" => first | exact True.intro | with_reducible exact li_start | with_reducible exact li_run (by assumption) (by assumption) | with_reducible exact li_open (by assumption) (by assumption) | with_reducible exact li_piece (pcs_get _) (by assumption) (by assumption) (by assumption)
  k_steps
  done)
end Mine

theorem PySem.Challenge.cw_dp5034_01_holds : PySem.Challenge.rw_dp5034_01.Holds := by
  exact Mine.law_holds
