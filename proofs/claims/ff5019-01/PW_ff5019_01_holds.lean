import PyProof.Rows.All
import Wide.All
import OpenK.AllK
import Wide.FinOn
import PySem.Builtin.Sre.Common
import PySem.Builtin.Re_Match.W3All
import Lean
import PySem.Challenge.RW_ff5019_01
set_option Elab.async false
set_option linter.all false
section
open PySem PySem.W PyProof.Rows in
theorem Mine.fresh_Hd : True := by
  k_with_none
  w_top off
  trivial
open PySem PySem.W PyProof.Rows
namespace Mine
set_option maxRecDepth 100000 in
set_option maxHeartbeats 8000000 in
open_top hd for PySem.Challenge.rw_ff5019_01
end Mine
end
section
open PySem PySem.W PyProof.Rows in
theorem Mine.fresh_P : True := by
  k_with_none
  w_top off
  trivial
open PySem PySem.W PyProof.Rows PySem.Builtin PySem.Builtin.Str
namespace Mine

/-! ## the plain reading of a text -/
@[irreducible] def ch (g : Str) (i : Nat) : Nat := g.cps.getD i 0
@[irreducible] def sl (g : Str) (a b : Nat) : Str := ⟨((g.cps.toList.drop a).take (b - a)).toArray⟩
@[irreducible] def isHead (c : Nat) : Bool := (decide (97 ≤ c) && decide (c ≤ 122)) || c == 35 || c == 47 || c == 64

def scan (g : Str) (i : Nat) : Nat := if h : i < g.length then (if ch g i = 91 ∨ ch g i = 93 then i else scan g (i + 1)) else i
termination_by g.length - i
def bs (g : Str) (i : Nat) : Nat := if h : i < g.length then (if ch g i = 92 then bs g (i + 1) else i) else i
termination_by g.length - i
@[irreducible] def tagEnd (g : Str) (p : Nat) : Option Nat :=
  if p + 1 < g.length ∧ ch g p = 91 ∧ isHead (ch g (p + 1)) = true then
    (if scan g (p + 2) < g.length ∧ ch g (scan g (p + 2)) = 93 then some (scan g (p + 2) + 1) else none)
  else none

theorem scan_lt {g : Str} {i : Nat} (h : i < g.length) (hb : ch g i ≠ 91) (hc : ch g i ≠ 93) : scan g i = scan g (i + 1) := by
  rw [scan, dif_pos h, if_neg (by intro q; exact q.elim hb hc)]
theorem scan_at {g : Str} {i : Nat} (h : i < g.length) (hb : ch g i = 91 ∨ ch g i = 93) : scan g i = i := by
  rw [scan, dif_pos h, if_pos hb]
theorem scan_end {g : Str} {i : Nat} (h : g.length ≤ i) : scan g i = i := by
  rw [scan, dif_neg (by omega)]
theorem bs_lt {g : Str} {i : Nat} (h : i < g.length) (hb : ch g i = 92) : bs g i = bs g (i + 1) := by
  rw [bs, dif_pos h, if_pos hb]
theorem bs_at {g : Str} {i : Nat} (h : ch g i ≠ 92) : bs g i = i := by
  rw [bs]; split
  · first | rfl | rw [if_neg h]
  · rfl
theorem bs_end {g : Str} {i : Nat} (h : g.length ≤ i) : bs g i = i := by
  rw [bs, dif_neg (by omega)]
theorem ch_out {g : Str} {i : Nat} (h : g.length ≤ i) : ch g i = 0 := by
  unfold ch
  rw [Array.getD_eq_getD_getElem?, Array.getElem?_eq_none (by exact h)]
  rfl
theorem scan_ge (g : Str) (i : Nat) : i ≤ scan g i := by
  fun_induction scan g i <;> omega
theorem bs_ge (g : Str) (i : Nat) : i ≤ bs g i := by
  fun_induction bs g i <;> omega
theorem scan_le {g : Str} {i : Nat} (h : i ≤ g.length) : scan g i ≤ g.length := by
  fun_induction scan g i <;> omega
theorem bs_le {g : Str} {i : Nat} (h : i ≤ g.length) : bs g i ≤ g.length := by
  fun_induction bs g i <;> omega
theorem bs_ne (g : Str) (i : Nat) : ch g (bs g i) ≠ 92 := by
  fun_induction bs g i with
  | case1 i h h1 ih => exact ih
  | case2 i h h1 => exact h1
  | case3 i h => rw [ch_out (by omega)]; decide
theorem tagEnd_gt {g : Str} {p e : Nat} (h : tagEnd g p = some e) : p + 2 < e ∧ e ≤ g.length ∧ ch g p = 91 ∧ ch g (e - 1) = 93 ∧ isHead (ch g (p + 1)) = true ∧ p + 1 < g.length ∧ scan g (p + 2) = e - 1 := by
  unfold tagEnd at h
  split at h
  · rename_i h1
    split at h
    · rename_i h2
      have := scan_ge g (p + 2)
      cases h
      exact ⟨by omega, by omega, h1.2.1, h2.2, h1.2.2, h1.1, by omega⟩
    · cases h
  · cases h

def findEq (g : Str) (i : Nat) : Nat := if h : i < g.length then (if ch g i = 61 then i else findEq g (i + 1)) else i
termination_by g.length - i
theorem findEq_lt {g : Str} {i : Nat} (h : i < g.length) (hb : ch g i ≠ 61) : findEq g i = findEq g (i + 1) := by
  rw [findEq, dif_pos h, if_neg hb]
theorem findEq_at {g : Str} {i : Nat} (h : i < g.length) (hb : ch g i = 61) : findEq g i = i := by
  rw [findEq, dif_pos h, if_pos hb]
theorem findEq_end {g : Str} {i : Nat} (h : g.length ≤ i) : findEq g i = i := by
  rw [findEq, dif_neg (by omega)]
theorem findEq_ge (g : Str) (i : Nat) : i ≤ findEq g i := by
  fun_induction findEq g i <;> omega
theorem findEq_le {g : Str} {i : Nat} (h : i ≤ g.length) : findEq g i ≤ g.length := by
  fun_induction findEq g i <;> omega
theorem findEq_ch {g : Str} {i : Nat} (h : findEq g i < g.length) : ch g (findEq g i) = 61 := by
  fun_induction findEq g i with
  | case1 i h h1 => exact h1
  | case2 i h h1 ih => exact ih h
  | case3 i h => omega
@[irreducible] def cutName (g : Str) : Str := if findEq g 0 < g.length then sl g 0 (findEq g 0) else g
@[irreducible] def cutVal (g : Str) : Option Str := if findEq g 0 < g.length then some (sl g (findEq g 0 + 1) g.length) else none

/-! ## the model's words for signs -/
theorem item_ch {g : Str} {p : Int} (h : 0 ≤ p) : Txt.item g p = ⟨#[ch g p.toNat]⟩ := by
  unfold Txt.item Txt.charAt ch
  congr 2
  rw [Array.getD_eq_getD_getElem?]
  by_cases hp : p < g.length
  · rw [StrLaws.seqIndex_nonneg h hp]; rfl
  · have e : seqIndex? p g.length = none := by
      unfold seqIndex?
      simp only [show ¬ p < 0 by omega, if_false]
      simp [hp]
    rw [e, Array.getElem?_eq_none (by simp only [Str.length] at hp; omega)]
    rfl
theorem ofStr_lb : Str.ofString "[" = ⟨#[91]⟩ := by decide +kernel
theorem ofStr_rb : Str.ofString "]" = ⟨#[93]⟩ := by decide +kernel
theorem ofStr_lrb : Str.ofString "[]" = ⟨#[91, 93]⟩ := by decide +kernel
theorem ofStr_bs : Str.ofString "\\" = ⟨#[92]⟩ := by decide +kernel
theorem ofStr_eq : Str.ofString "=" = ⟨#[61]⟩ := by decide +kernel
theorem ofStr_heads : Str.ofString "abcdefghijklmnopqrstuvwxyz#/@" = ⟨#[97, 98, 99, 100, 101, 102, 103, 104, 105, 106, 107, 108, 109, 110, 111, 112, 113, 114, 115, 116, 117, 118, 119, 120, 121, 122, 35, 47, 64]⟩ := by decide +kernel
theorem one_beq (a b : Nat) : ((⟨#[a]⟩ : Str) == ⟨#[b]⟩) = (a == b) := by
  rw [Bool.eq_iff_iff]
  simp
theorem one_bne (a b : Nat) : ((⟨#[a]⟩ : Str) != ⟨#[b]⟩) = (a != b) := by
  show (!((⟨#[a]⟩ : Str) == ⟨#[b]⟩)) = !(a == b)
  rw [one_beq]
theorem in_heads (c : Nat) : (occurrences (Str.ofString "abcdefghijklmnopqrstuvwxyz#/@") ⟨#[c]⟩ 0 (Str.ofString "abcdefghijklmnopqrstuvwxyz#/@").length 1).isEmpty = !isHead c := by
  have h := StrLaws.found_one (Str.ofString "abcdefghijklmnopqrstuvwxyz#/@") c
  have e : decide (c ∈ (Str.ofString "abcdefghijklmnopqrstuvwxyz#/@").cps.toList) = isHead c := by
    rw [ofStr_heads, Bool.eq_iff_iff]
    simp only [isHead, decide_eq_true_eq, Bool.or_eq_true, Bool.and_eq_true, beq_iff_eq, List.mem_cons, List.not_mem_nil, or_false]
    omega
  rw [e] at h
  rw [← h, Bool.not_not]
theorem in_brackets (c : Nat) : (occurrences (Str.ofString "[]") ⟨#[c]⟩ 0 (Str.ofString "[]").length 1).isEmpty = !(c == 91 || c == 93) := by
  have h := StrLaws.found_one (Str.ofString "[]") c
  have e : decide (c ∈ (Str.ofString "[]").cps.toList) = (c == 91 || c == 93) := by
    rw [ofStr_lrb, Bool.eq_iff_iff]
    simp
  rw [e] at h
  rw [← h, Bool.not_not]
theorem slice_to {g : Str} {b : Int} (h : 0 ≤ b) (hb : b ≤ g.length) : Txt.slice g none (some b) = sl g 0 b.toNat := by
  unfold sl
  exact (StrLaws.sliceText_to ⟨h, by simpa [Str.length] using hb⟩).trans (by rw [show (b - 0).toNat = b.toNat - 0 by omega])
theorem slice_from {g : Str} {b : Int} (h : 0 ≤ b) (hb : b ≤ g.length) : Txt.slice g (some b) none = sl g b.toNat g.length := by
  unfold sl
  refine (StrLaws.sliceText_from ⟨h, by simpa [Str.length] using hb⟩).trans ?_
  congr 2
  simp [Str.length]; omega
theorem slice_mid {g : Str} {a b : Int} (h : 0 ≤ a) (hab : a ≤ b) (hb : b ≤ g.length) : Txt.slice g (some a) (some b) = sl g a.toNat b.toNat := by
  unfold sl
  refine (StrLaws.sliceText_plain ⟨h, hab, by simpa [Str.length] using hb⟩).trans ?_
  congr 3
  omega
theorem news_sub {h₀ h : Heap} {L : Addr} {l l' : List (Addr × Obj)} (N : News h₀ L h l) (hs : ∀ p ∈ l', p ∈ l) : News h₀ L h l' := fun p hp => N p (hs p hp)
end Mine
end
section
open PySem PySem.W PyProof.Rows in
theorem Mine.fresh_P2 : True := by
  k_with_none
  w_top off
  trivial
open PySem PySem.W PyProof.Rows PySem.Builtin PySem.Builtin.Str
namespace Mine
/-! ## the tags of a text, and the rows -/
def tags (g : Str) (p : Nat) : List (Nat × Nat × Nat) :=
  if h : p < g.length then
    match hm : tagEnd g (bs g p) with
    | none => tags g (p + 1)
    | some e => (p, bs g p, e) :: tags g e
  else []
termination_by g.length - p
decreasing_by
  · omega
  · have h1 := tagEnd_gt hm
    have h2 := bs_ge g p
    omega
inductive Row where
  | txt (p : Nat) (t : Str)
  | tag (p : Nat) (n : Str) (v : Option Str)
def own (n : Str) (v : Option Str) : Str := ⟨(91 :: (n.cps.toList ++ (match v with | none => [] | some x => 61 :: x.cps.toList) ++ [93])).toArray⟩
def dStr : Option Str → Dat
  | none => .none
  | some x => .str x
def Row.told : Row → Dat
  | .txt p t => .tuple [.int p, .str t, .none, .none, .none]
  | .tag p n v => .tuple [.int p, .none, .str n, dStr v, .str (own n v)]
def bsl (n : Nat) : Str := ⟨(List.replicate n 92).toArray⟩
def rowsHead (g : Str) (mark st : Nat) : List Row := if mark < st then [.txt st (sl g mark st)] else []
def rowsTag (g : Str) (st a e : Nat) : List Row :=
  (if 2 ≤ a - st then [.txt st (bsl ((a - st) / 2))] else []) ++
  [if (a - st) % 2 = 1 then .txt (st + 2 * ((a - st) / 2)) (sl g a e) else .tag (st + 2 * ((a - st) / 2)) (cutName (sl g (a + 1) (e - 1))) (cutVal (sl g (a + 1) (e - 1)))]
def rows (g : Str) (mark : Nat) : List (Nat × Nat × Nat) → List Row
  | [] => if mark < g.length then [.txt mark (sl g mark g.length)] else []
  | (st, a, e) :: r => rowsHead g mark st ++ (rowsTag g st a e ++ rows g e r)
def rowsOf (g : Str) : List Row := rows g 0 (tags g 0)

theorem tags_end {g : Str} {p : Nat} (h : g.length ≤ p) : tags g p = [] := by
  rw [tags, dif_neg (by omega)]
theorem tags_none {g : Str} {p : Nat} (h : p < g.length) (hm : tagEnd g (bs g p) = none) : tags g p = tags g (p + 1) := by
  rw [tags, dif_pos h]
  split
  · rfl
  · rename_i e he; rw [hm] at he; cases he
theorem tags_some {g : Str} {p e : Nat} (h : p < g.length) (hm : tagEnd g (bs g p) = some e) : tags g p = (p, bs g p, e) :: tags g e := by
  rw [tags, dif_pos h]
  split
  · rename_i he; rw [hm] at he; cases he
  · rename_i e' he; rw [hm] at he; cases he; rfl
theorem bs_between {g : Str} {p q : Nat} (h1 : p ≤ q) (h2 : q ≤ bs g p) : bs g q = bs g p := by
  induction q with
  | zero => rw [show p = 0 by omega]
  | succ n ih =>
    by_cases e : p = n + 1
    · rw [e]
    · have h3 := ih (by omega) (by omega)
      have h4 : n < g.length := by
        by_cases q : n < g.length
        · exact q
        · exfalso
          have := bs_end (g := g) (i := n) (by omega)
          omega
      have h5 : ch g n = 92 := by
        by_cases q : ch g n = 92
        · exact q
        · have := bs_at (g := g) (i := n) q
          omega
      rw [← h3, bs_lt h4 h5]
/-- where no tag follows the backslashes, all of them may be skipped -/
theorem tags_skip {g : Str} {p : Nat} (h : p < g.length) (hm : tagEnd g (bs g p) = none) : tags g p = tags g (max (bs g p) (p + 1)) := by
  have key : ∀ k, p + k ≤ bs g p → tags g p = tags g (p + k) := by
    intro k
    induction k with
    | zero => intro _; rfl
    | succ k ih =>
      intro hk
      have h1 := ih (by omega)
      have h2 : p + k < g.length := by have := bs_le (g := g) (i := p) (by omega); omega
      rw [h1, tags_none h2 (by rw [bs_between (p := p) (q := p + k) (by omega) (by omega)]; exact hm)]
      rfl
  by_cases q : p + 1 ≤ bs g p
  · rw [Nat.max_eq_left q]
    have := key (bs g p - p) (by omega)
    rw [show p + (bs g p - p) = bs g p by omega] at this
    exact this
  · rw [Nat.max_eq_right (by omega)]
    exact tags_none h hm

theorem sl_toList (g : Str) (a b : Nat) : (sl g a b).cps.toList = (g.cps.toList.drop a).take (b - a) := by unfold sl; rfl
theorem ch_get {g : Str} {i : Nat} (h : i < g.length) : g.cps.toList[i]? = some (ch g i) := by
  unfold ch
  have h' : i < g.cps.size := h
  rw [Array.getD_eq_getD_getElem?, Array.getElem?_toList, Array.getElem?_eq_getElem h']
  rfl
theorem ch_list (g : Str) (i : Nat) : ch g i = g.cps.toList.getD i 0 := by
  unfold ch
  rw [Array.getD_eq_getD_getElem?, List.getD_eq_getElem?_getD, Array.getElem?_toList]
theorem sl_length {g : Str} {a b : Nat} (h : b ≤ g.length) : (sl g a b).length = b - a := by
  show (sl g a b).cps.size = b - a
  rw [← Array.length_toList, sl_toList, List.length_take, List.length_drop]
  simp only [Str.length, ← Array.length_toList] at h
  omega
theorem sl_cons {g : Str} {a b : Nat} (h : a < b) (hb : b ≤ g.length) : (sl g a b).cps.toList = ch g a :: (sl g (a + 1) b).cps.toList := by
  rw [sl_toList, sl_toList]
  have h' : a < g.cps.toList.length := by simp only [Str.length, ← Array.length_toList] at hb; omega
  rw [List.drop_eq_getElem_cons h', show b - a = (b - (a + 1)) + 1 by omega, List.take_succ_cons]
  congr 1
  have := ch_get (g := g) (i := a) (by simp only [Str.length, ← Array.length_toList] at hb ⊢; omega)
  rw [List.getElem?_eq_getElem h'] at this
  exact Option.some.inj this
theorem sl_cat {g : Str} {a b c : Nat} (h : a ≤ b) (h2 : b ≤ c) : (sl g a c).cps.toList = (sl g a b).cps.toList ++ (sl g b c).cps.toList := by
  rw [sl_toList, sl_toList, sl_toList, show c - a = (b - a) + (c - b) by omega, List.take_add, List.drop_drop, show a + (b - a) = b by omega]
theorem sl_nil (g : Str) (a : Nat) : (sl g a a).cps.toList = [] := by rw [sl_toList, Nat.sub_self, List.take_zero]
theorem sl_whole (g : Str) : sl g 0 g.length = g := by
  refine PySem.Str.ext' (Array.ext' ?_)
  rw [sl_toList, List.drop_zero, Nat.sub_zero]
  exact List.take_of_length_le (by simp [Str.length])
theorem cut_cat (c : Str) : (cutName c).cps.toList ++ (match cutVal c with | none => [] | some x => 61 :: x.cps.toList) = c.cps.toList := by
  unfold cutName cutVal
  by_cases h : findEq c 0 < c.length
  · rw [if_pos h, if_pos h]
    show (sl c 0 (findEq c 0)).cps.toList ++ 61 :: (sl c (findEq c 0 + 1) c.length).cps.toList = _
    have e := sl_cons (g := c) (a := findEq c 0) (b := c.length) h (Nat.le_refl _)
    rw [findEq_ch h] at e
    rw [← e, ← sl_cat (Nat.zero_le _) (by omega), sl_whole]
  · rw [if_neg h, if_neg h, List.append_nil]
theorem own_cut {g : Str} {a e : Nat} (h : tagEnd g a = some e) : sl g a e = own (cutName (sl g (a + 1) (e - 1))) (cutVal (sl g (a + 1) (e - 1))) := by
  obtain ⟨h1, h2, h3, h4, _⟩ := tagEnd_gt h
  refine PySem.Str.ext' (Array.ext' ?_)
  unfold own
  rw [cut_cat, sl_cons (by omega) h2, h3, sl_cat (b := e - 1) (by omega) (by omega)]
  have e1 := sl_cons (g := g) (a := e - 1) (b := e) (by omega) h2
  rw [h4, show e - 1 + 1 = e by omega, sl_nil] at e1
  rw [e1]
end Mine
end
section
open PySem PySem.W PyProof.Rows in
theorem Mine.fresh_E1 : True := by
  k_with_none
  w_top off
  trivial
open PySem PySem.W PyProof.Rows PySem.Calls PySem.Builtin PySem.Builtin.Str
namespace Mine
@[irreducible] def optInt (r : Value) (o : Option Nat) : Prop := match o with | some e => ∃ t, r = .int e t | none => r = .none

section
variable {g : Str} {p q : Int} {t : Tok}
theorem le_none (h : tagEnd g p.toNat = none) : optInt .none (tagEnd g p.toNat) := by rw [h]; unfold optInt; rfl
theorem lE1 (h : (g.length : Int) ≤ p) : optInt .none (tagEnd g p.toNat) := le_none (by unfold tagEnd; rw [if_neg (by omega)])
theorem lE2 (hp : 0 ≤ p) (h : (Txt.item g p != Str.ofString "[") = true) : optInt .none (tagEnd g p.toNat) := by
  rw [item_ch hp, ofStr_lb, one_bne] at h
  refine le_none ?_
  unfold tagEnd; rw [if_neg]
  rintro ⟨_, h2, _⟩
  rw [h2] at h; exact absurd h (by decide)
theorem lE3 (h : (g.length : Int) ≤ p + 1) : optInt .none (tagEnd g p.toNat) := le_none (by unfold tagEnd; rw [if_neg (by omega)])
theorem lE4 (hp : 0 ≤ p) (h : (occurrences (Str.ofString "abcdefghijklmnopqrstuvwxyz#/@") (Txt.item g (p + 1)) 0 (Str.ofString "abcdefghijklmnopqrstuvwxyz#/@").length 1).isEmpty = true) : optInt .none (tagEnd g p.toNat) := by
  rw [item_ch (by omega), in_heads] at h
  refine le_none ?_
  unfold tagEnd; rw [if_neg]
  rintro ⟨_, _, h2⟩
  rw [show (p + 1).toNat = p.toNat + 1 by omega, h2] at h; exact absurd h (by decide)
/-- the ways through behind the loop -/
theorem lEhead (hp : 0 ≤ p) (h1 : ¬ (g.length : Int) ≤ p) (h2 : (Txt.item g p != Str.ofString "[") = false) (h3 : ¬ (g.length : Int) ≤ p + 1)
    (h4 : (occurrences (Str.ofString "abcdefghijklmnopqrstuvwxyz#/@") (Txt.item g (p + 1)) 0 (Str.ofString "abcdefghijklmnopqrstuvwxyz#/@").length 1).isEmpty = false) (hI : 0 ≤ q ∧ scan g q.toNat = scan g (p.toNat + 2)) (hq : scan g q.toNat = q.toNat) :
    tagEnd g p.toNat = if q.toNat < g.length ∧ ch g q.toNat = 93 then some (q.toNat + 1) else none := by
  rw [item_ch hp, ofStr_lb, one_bne] at h2
  rw [item_ch (by omega), in_heads] at h4
  unfold tagEnd
  rw [if_pos ⟨by omega, by simpa using h2, by rw [show (p + 1).toNat = p.toNat + 1 by omega] at h4; simpa using h4⟩, ← hI.2, hq]
theorem lE5 (hp : 0 ≤ p) (h1 : ¬ (g.length : Int) ≤ p) (h2 : (Txt.item g p != Str.ofString "[") = false) (h3 : ¬ (g.length : Int) ≤ p + 1)
    (h4 : (occurrences (Str.ofString "abcdefghijklmnopqrstuvwxyz#/@") (Txt.item g (p + 1)) 0 (Str.ofString "abcdefghijklmnopqrstuvwxyz#/@").length 1).isEmpty = false) (hI1 : 0 ≤ q) (hI2 : scan g q.toNat = scan g (p.toNat + 2))
    (h5 : q < (g.length : Int)) (h6 : (Txt.item g q == Str.ofString "]") = true) : optInt (.int (q + 1) t) (tagEnd g p.toNat) := by
  rw [item_ch hI1, ofStr_rb, one_beq] at h6
  have h7 : ch g q.toNat = 93 := by simpa using h6
  rw [lEhead hp h1 h2 h3 h4 ⟨hI1, hI2⟩ (scan_at (by omega) (.inr h7)), if_pos ⟨by omega, h7⟩]
  unfold optInt
  exact ⟨t, by congr 1; omega⟩
theorem lE6 (hp : 0 ≤ p) (h1 : ¬ (g.length : Int) ≤ p) (h2 : (Txt.item g p != Str.ofString "[") = false) (h3 : ¬ (g.length : Int) ≤ p + 1)
    (h4 : (occurrences (Str.ofString "abcdefghijklmnopqrstuvwxyz#/@") (Txt.item g (p + 1)) 0 (Str.ofString "abcdefghijklmnopqrstuvwxyz#/@").length 1).isEmpty = false) (hI1 : 0 ≤ q) (hI2 : scan g q.toNat = scan g (p.toNat + 2))
    (h5 : q < (g.length : Int)) (h7 : (occurrences (Str.ofString "[]") (Txt.item g q) 0 (Str.ofString "[]").length 1).isEmpty = false) (h6 : (Txt.item g q == Str.ofString "]") = false) : optInt .none (tagEnd g p.toNat) := by
  rw [item_ch hI1, ofStr_rb, one_beq] at h6
  rw [item_ch hI1, in_brackets] at h7
  have h8 : ch g q.toNat = 91 := by simp_all
  refine le_none ?_
  rw [lEhead hp h1 h2 h3 h4 ⟨hI1, hI2⟩ (scan_at (by omega) (.inl h8)), if_neg (by rintro ⟨_, h9⟩; omega)]
theorem lE7 (hp : 0 ≤ p) (h1 : ¬ (g.length : Int) ≤ p) (h2 : (Txt.item g p != Str.ofString "[") = false) (h3 : ¬ (g.length : Int) ≤ p + 1)
    (h4 : (occurrences (Str.ofString "abcdefghijklmnopqrstuvwxyz#/@") (Txt.item g (p + 1)) 0 (Str.ofString "abcdefghijklmnopqrstuvwxyz#/@").length 1).isEmpty = false) (hI1 : 0 ≤ q) (hI2 : scan g q.toNat = scan g (p.toNat + 2))
    (h5 : ¬ q < (g.length : Int)) : optInt .none (tagEnd g p.toNat) := by
  refine le_none ?_
  rw [lEhead hp h1 h2 h3 h4 ⟨hI1, hI2⟩ (scan_end (by omega)), if_neg (by omega)]
theorem lEs (hp : 0 ≤ p) : 0 ≤ p + 2 ∧ scan g (p + 2).toNat = scan g (p.toNat + 2) := ⟨by omega, by rw [show (p + 2).toNat = p.toNat + 2 by omega]⟩
theorem lEt {r : Nat} (hI1 : 0 ≤ q) (hI2 : scan g q.toNat = scan g r) (h5 : q < (g.length : Int)) (h7 : (occurrences (Str.ofString "[]") (Txt.item g q) 0 (Str.ofString "[]").length 1).isEmpty = true) :
    0 ≤ q + 1 ∧ scan g (q + 1).toNat = scan g r := by
  rw [item_ch hI1, in_brackets] at h7
  refine ⟨by omega, ?_⟩
  rw [← hI2, show (q + 1).toNat = q.toNat + 1 by omega]
  exact (scan_lt (by omega) (by simp_all) (by simp_all)).symm
end
set_option maxRecDepth 100000 in
set_option maxHeartbeats 8000000 in
theorem c_end {w : World} {mean : ExcName → Option Value} {mg mb : Str → Option Value} {dp un : Nat} {gd : Option (List Code)} {cn : Str} {cs : Scope} {a : Addr} {ccd : Value} {cl : List (Str × Addr)} {outer : List Env} {A₀ : Around} {base h₀ : Heap} {L : Addr} {m : Str → Option Value} {news : List (Addr × Obj)} {s : Shared} {Q E : Value → Shared → Prop} {g : Str} {t1 : Tok} {p : Int} {t2 : Tok} (B : Below A₀ base outer h₀) (F : Fr h₀ L s.heap m) (X : (Mine.hd.heap_39 w.params).In h₀) (N : News h₀ L s.heap news)
    (T : Top Mine.hd.view_39 (looseW Mine.hd.view_39 [Str.ofString "_tuplegetter", Str.ofString "RE_TAGS", Str.ofString "Tag"]) mean mg mb h₀) (hk : cs.kind = .function) (hp : 0 ≤ p) (hg : g.length ≤ 1048576) (hd : dp + 1 < recursionLimit)
    (hret : ∀ r h' tk', optInt r (tagEnd g p.toNat) → Fr h₀ L h' m → News h₀ L h' news → Q r { s with heap := h', toks := tk' }) :
    wpAny (model PySem.Challenge.rw_ff5019_01.row.prog w) (ktrTop dp un gd cn cs L a ccd cl outer) (call (.ref 205) [.str g t1, .int p t2]) Q E s := by
  revert X; k_fill; intro X
  refine wpAny_call ?_
  k_dflt cell_enter
  k_with "state" => first | exact lEs (by assumption) | exact lEt (by assumption) (by assumption) (by assumption) (by assumption)
  k_with "exec While BoolOp" => k_while (fun _ at_ => 0 ≤ at_ ∧ scan g at_.toNat = scan g (p.toNat + 2)) (fun _ at_ => (g.length - at_).toNat) "at"
  k_steps
  all_goals refine hret _ _ _ ?_ (by assumption) (by assumption)
  all_goals first
    | with_reducible exact lE1 (by assumption)
    | with_reducible exact lE2 (by assumption) (by assumption)
    | with_reducible exact lE3 (by assumption)
    | with_reducible exact lE4 (by assumption) (by assumption)
    | with_reducible exact lE5 (by assumption) (by assumption) (by assumption) (by assumption) (by assumption) (by assumption) (by assumption) (by assumption) (by assumption)
    | with_reducible exact lE6 (by assumption) (by assumption) (by assumption) (by assumption) (by assumption) (by assumption) (by assumption) (by assumption) (by assumption) (by assumption)
    | with_reducible exact lE7 (by assumption) (by assumption) (by assumption) (by assumption) (by assumption) (by assumption) (by assumption) (by assumption)
end Mine
end
section
open PySem PySem.W PyProof.Rows in
theorem Mine.fresh_E2 : True := by
  k_with_none
  w_top off
  trivial
open PySem PySem.W PyProof.Rows PySem.Calls PySem.Builtin PySem.Builtin.Str
namespace Mine
@[irreducible] def optStr (v : Value) (o : Option Str) : Prop := match o with | some e => ∃ t, v = .str e t | none => v = .none
abbrev tupO (vs : Array Value) : Obj := { cls := Value.type "tuple", data := Data.seq vs }
section
variable {g : Str} {q : Int} {t : Tok} {pre : List Int}
theorem lC1 {kN : Int} (e : kN = 0 + (pre.length : Int)) (hl : pre.length < ((g.length : Int) - 0).toNat) (hI : findEq g pre.length = findEq g 0) (h : (Txt.item g kN == Str.ofString "=") = true) :
    Txt.slice g none (some kN) = cutName g ∧ optStr (.str (Txt.slice g (some (kN + 1)) none) t) (cutVal g) := by
  rw [item_ch (by omega), ofStr_eq, one_beq] at h
  have h1 : ch g pre.length = 61 := by rw [show kN.toNat = pre.length by omega] at h; simpa using h
  have h2 : findEq g 0 = pre.length := by rw [← hI, findEq_at (by omega) h1]
  rw [slice_to (by omega) (by omega), slice_from (by omega) (by omega)]
  unfold cutName cutVal optStr
  rw [h2, if_pos (by omega), if_pos (by omega)]
  refine ⟨by congr 1; omega, t, ?_⟩
  congr 2; omega
theorem lC2 {kN : Int} (e : kN = 0 + (pre.length : Int)) (hl : pre.length < ((g.length : Int) - 0).toNat) (hI : findEq g pre.length = findEq g 0) (h : (Txt.item g kN == Str.ofString "=") = false) :
    findEq g (pre ++ [kN]).length = findEq g 0 := by
  rw [item_ch (by omega), ofStr_eq, one_beq] at h
  have h1 : ch g pre.length ≠ 61 := by rw [show kN.toNat = pre.length by omega] at h; simpa using h
  rw [List.length_append, ← hI]
  exact (findEq_lt (by omega) h1).symm
theorem lC3 (hI : findEq g (rangeKs 0 ((g.length : Int) - 0).toNat).length = findEq g 0) : g = cutName g ∧ optStr .none (cutVal g) := by
  rw [rangeKs_length, show ((g.length : Int) - 0).toNat = g.length by omega, findEq_end (by omega)] at hI
  unfold cutName cutVal optStr
  rw [← hI, if_neg (by omega), if_neg (by omega)]
  exact ⟨rfl, rfl⟩
theorem off_lt {l own : List (Addr × Obj)} {D : Addr} (h : ∀ p ∈ l ++ own, p.1 < D) : ∀ p ∈ l, p.1 < D := fun p hp => h p (List.mem_append.mpr (.inl hp))
theorem news_cons_sub {h₀ h : Heap} {L : Addr} {x : Addr × Obj} {l own : List (Addr × Obj)} (N : News h₀ L h (x :: (l ++ own))) : News h₀ L h (x :: l) :=
  news_sub N fun p hp => by
    rcases List.mem_cons.mp hp with rfl | hp
    · exact .head _
    · exact .tail _ (List.mem_append.mpr (.inl hp))
end
set_option maxRecDepth 100000 in
set_option maxHeartbeats 8000000 in
theorem c_cut {w : World} {mean : ExcName → Option Value} {mg mb : Str → Option Value} {dp un : Nat} {gd : Option (List Code)} {cn : Str} {cs : Scope} {a : Addr} {ccd : Value} {cl : List (Str × Addr)} {outer : List Env} {A₀ : Around} {base h₀ : Heap} {L : Addr} {m : Str → Option Value} {news : List (Addr × Obj)} {s : Shared} {Q E : Value → Shared → Prop} {g : Str} {t1 : Tok} (B : Below A₀ base outer h₀) (F : Fr h₀ L s.heap m) (X : (Mine.hd.heap_39 w.params).In h₀) (N : News h₀ L s.heap news)
    (T : Top Mine.hd.view_39 (looseW Mine.hd.view_39 [Str.ofString "_tuplegetter", Str.ofString "RE_TAGS", Str.ofString "Tag"]) mean mg mb h₀) (hk : cs.kind = .function) (hg : g.length ≤ 1048576) (hd : dp + 1 < recursionLimit)
    (hret : ∀ D t v h' tk', optStr v (cutVal g) → Fr h₀ L h' m → News h₀ L h' ((D, tupO #[.str (cutName g) t, v]) :: news) → (∀ p ∈ news, p.1 < D) → Q (.ref D) { s with heap := h', toks := tk' }) :
    wpAny (model PySem.Challenge.rw_ff5019_01.row.prog w) (ktrTop dp un gd cn cs L a ccd cl outer) (call (.ref 212) [.str g t1]) Q E s := by
  revert X; k_fill; intro X
  refine wpAny_call ?_
  k_dflt cell_enter
  k_with "state" => exact lC2 (by assumption) (by assumption) (by assumption) (by assumption)
  k_with "pyIter ref" => k_search (fun pre => findEq g pre.length = findEq g 0)
  k_steps
  · (rename News h₀ L _ _ => hN9)
    have h := fun t => lC1 (t := t) (by assumption) (by assumption) (by assumption) (by assumption)
    rw [(h 0).1] at hN9
    exact hret _ _ _ _ _ (h _).2 (by assumption) (news_cons_sub hN9) (off_lt (by assumption))
  · (rename News h₀ L _ _ => hN9)
    have h := lC3 (g := g) (by assumption)
    have h1 : ∀ t : Tok, Value.str g t = Value.str (cutName g) t := fun t => by rw [← h.1]
    rw [h1] at hN9
    exact hret _ _ _ _ _ h.2 (by assumption) hN9 (by assumption)
end Mine
end
section
open PySem PySem.W PyProof.Rows in
theorem Mine.fresh_W : True := by
  k_with_none
  w_top off
  trivial
open PySem PySem.W PyProof.Rows PySem.Calls PySem.Builtin PySem.Builtin.Str
namespace Mine
/-! ## a while by an invariant over its frame and ledger -/
def MyStep (h₀ : Heap) (L : Addr) (s : Shared) (J : Nat → (Str → Option Value) → List (Addr × Obj) → Prop) (Q : Flow → Shared → Prop) (n : Nat) (f : Flow) (s₃ : Shared) : Prop := WhileStep2 h₀ L s J Q n f s₃
theorem my_while {prog : Program} {w : World} {A : Around} {E : Value → Shared → Prop} {Q : Flow → Shared → Prop} {s : Shared} {env : Env} {h₀ : Heap} {L : Addr} {test : Expr} {body : List Stmt} {pos : Pos} {m : Str → Option Value} {news : List (Addr × Obj)}
    (J : Nat → (Str → Option Value) → List (Addr × Obj) → Prop) (n₀ : Nat)
    {news' : List (Addr × Obj)} (F : Fr h₀ L s.heap m) (N : News h₀ L s.heap news') (hJ : J n₀ m news) (hs : ∀ p ∈ news, p ∈ news')
    (turn : ∀ n m₁ news₁ h₁ tk₁, Fr h₀ L h₁ m₁ → News h₀ L h₁ news₁ → J n m₁ news₁ →
      wpAny (model prog w) A (isTrue test env (eval test env)) (fun b s₂ =>
        if b = true then wpAny (model prog w) A (execs body env) (MyStep h₀ L s J Q n) E s₂ else Q .next s₂) E { s with heap := h₁, toks := tk₁ })
    (hE : PassesOwn (model prog w) A env E) :
    wpAny (model prog w) A (exec (.While test body [] pos) env) Q E s := While_inv2 J F (news_sub N hs) hJ turn hE
theorem my_next {h₀ h' : Heap} {L : Addr} {s : Shared} {J : Nat → (Str → Option Value) → List (Addr × Obj) → Prop} {Q : Flow → Shared → Prop} {n n' tk : Nat} {m₂ : Str → Option Value} {news₂ : List (Addr × Obj)} {f : Flow} (hf : f = .next ∨ f = .cont)
    {news₁ : List (Addr × Obj)} (F : Fr h₀ L h' m₂) (N : News h₀ L h' news₁) (hs : ∀ p ∈ news₂, p ∈ news₁) (hn : n' < n) (hJ : J n' m₂ news₂) : MyStep h₀ L s J Q n f { s with heap := h', toks := tk } := by
  rcases hf with rfl | rfl
  · exact ⟨h', tk, m₂, news₂, n', rfl, F, news_sub N hs, hn, hJ⟩
  · exact ⟨h', tk, m₂, news₂, n', rfl, F, news_sub N hs, hn, hJ⟩
/-- a frame with its known names written in front -/
def put (m : Str → Option Value) : List (Str × Value) → Str → Option Value
  | [], y => m y
  | p :: r, y => if y = p.1 then some p.2 else put m r y
theorem put_fr {h₀ h : Heap} {L : Addr} {m : Str → Option Value} (F : Fr h₀ L h m) (ps : List (Str × Value)) (hp : ∀ p ∈ ps, m p.1 = some p.2) : Fr h₀ L h (put m ps) := by
  have e : put m ps = m := by
    funext y
    induction ps with
    | nil => rfl
    | cons p r ih =>
      show (if y = p.1 then some p.2 else put m r y) = m y
      by_cases h : y = p.1
      · rw [if_pos h, h, hp p (.head _)]
      · rw [if_neg h, ih fun q hq => hp q (.tail _ hq)]
  rw [e]; exact F
/-! ## the backslashes ahead of a bracket -/
def BsEnd (h₀ : Heap) (L : Addr) (m : Str → Option Value) (news : List (Addr × Obj)) (s : Shared) (k : Nat) (f : Flow) (s' : Shared) : Prop :=
  f = .next ∧ ∃ h' tk t, s' = { s with heap := h', toks := tk } ∧ Fr h₀ L h' (fun y : Str => if y = Str.ofString "at" then some (.int (k : Int) t) else m y) ∧ News h₀ L h' news
theorem bs_while {prog : Program} {w : World} {A : Around} {E : Value → Shared → Prop} {Q : Flow → Shared → Prop} {s : Shared} {h₀ : Heap} {L : Addr} {t : Sem Flow} {m : Str → Option Value} {news : List (Addr × Obj)} (k : Nat)
    (_ : Fr h₀ L s.heap m) (_ : News h₀ L s.heap news) (hin : wpAny (model prog w) A t (BsEnd h₀ L m news s k) E s)
    (hout : ∀ h' tk t, Fr h₀ L h' (fun y : Str => if y = Str.ofString "at" then some (.int (k : Int) t) else m y) → News h₀ L h' news → Q .next { s with heap := h', toks := tk }) :
    wpAny (model prog w) A t Q E s := by
  refine wpAny_mono hin (fun f s' h => ?_) fun _ _ x => x
  obtain ⟨rfl, h', tk, t, rfl, F, N⟩ := h
  exact hout h' tk t F N
theorem bs_out {s : Shared} {h₀ h' : Heap} {L : Addr} {m m' : Str → Option Value} {news : List (Addr × Obj)} {k tk : Nat} {i : Int} {t : Tok} (e : i = k)
    (F : Fr h₀ L h' m') (hm : m' = fun y : Str => if y = Str.ofString "at" then some (.int i t) else m y) (N : News h₀ L h' news) : BsEnd h₀ L m news s k .next { s with heap := h', toks := tk } := by
  subst e hm
  exact ⟨rfl, h', tk, t, rfl, F, N⟩
theorem mul_bs {prog : Program} {w : World} {A : Around} {E : Value → Shared → Prop} {s : Shared} {Q : Value → Shared → Prop} {t u : Tok} {n : Int} (h1 : 1 ≤ n) (h2 : n ≤ 1048576)
    (h : ∀ t' k, Q (.str (bsl n.toNat) t') { s with toks := k }) : wpAny (model prog w) A (binaryOp .Mult (.str (Str.ofString "\\") t) (.int n u)) Q E s := by
  rw [ofStr_bs]
  have e : Txt.mul ⟨#[92]⟩ n = bsl n.toNat := by
    unfold Txt.mul bsl
    rw [if_neg (by omega)]
    by_cases hn : n = 1
    · subst hn; rfl
    · rw [if_neg (by simp [Str.length, hn])]
      refine PySem.Str.ext' (Array.ext' ?_)
      generalize n.toNat = k
      have key : ∀ (k : Nat) (acc : Array Nat), ((List.replicate k (#[92] : Array Nat)).foldl (· ++ ·) acc).toList = acc.toList ++ List.replicate k 92 := by
        intro k
        induction k with
        | zero => intro acc; simp
        | succ k ih => intro acc; rw [List.replicate_succ, List.foldl_cons, ih]; simp [List.replicate_succ]
      rw [key]; simp
  refine SB.mul ⟨?_, fun _ _ => ?_, fun _ _ => ?_⟩ fun t' k => by rw [e]; exact h t' k
  · simp; omega
  · show ¬ (((1 : Nat) : Int) > (2 ^ 63 - 1) / n)
    have h3 : (1 : Int) ≤ (2 ^ 63 - 1) / n := (Int.le_ediv_iff_mul_le (by omega)).mpr (by omega)
    omega
  · show tooLong (1 * n.toNat) = false
    unfold tooLong
    simp only [decide_eq_false_iff_not, PySem.sizeLine_eq, gt_iff_lt]
    omega
theorem optInt_cases {r : Value} {o : Option Nat} (h : optInt r o) : (o = none ∧ r = .none) ∨ ∃ e t, o = some e ∧ r = .int (e : Nat) t := by
  unfold optInt at h
  cases o with
  | none => exact .inl ⟨rfl, h⟩
  | some e => obtain ⟨t, rfl⟩ := h; exact .inr ⟨e, t, rfl, rfl⟩
theorem optStr_cases {r : Value} {o : Option Str} (h : optStr r o) : (o = none ∧ r = .none) ∨ ∃ e t, o = some e ∧ r = .str e t := by
  unfold optStr at h
  cases o with
  | none => exact .inl ⟨rfl, h⟩
  | some e => obtain ⟨t, rfl⟩ := h; exact .inr ⟨e, t, rfl, rfl⟩
section
variable {g : Str} {q : Int} {P : Nat}
theorem lB0 (h : (P : Int) < g.length) : (P : Int) ≤ P ∧ (P : Int) ≤ g.length ∧ bs g (P : Int).toNat = bs g P := ⟨by omega, by omega, by congr 1⟩
theorem lB1 (h1 : (P : Int) ≤ q) (h2 : bs g q.toNat = bs g P) (h3 : q < g.length) (h4 : (Txt.item g q == Str.ofString "\\") = true) : (P : Int) ≤ q + 1 ∧ q + 1 ≤ g.length ∧ bs g (q + 1).toNat = bs g P := by
  rw [item_ch (by omega), ofStr_bs, one_beq] at h4
  refine ⟨by omega, by omega, ?_⟩
  rw [← h2, show (q + 1).toNat = q.toNat + 1 by omega]
  exact (bs_lt (by omega) (by simpa using h4)).symm
theorem lB2 (h1 : (P : Int) ≤ q) (h2 : bs g q.toNat = bs g P) (h4 : (Txt.item g q == Str.ofString "\\") = false) : q = (bs g P : Nat) := by
  rw [item_ch (by omega), ofStr_bs, one_beq] at h4
  rw [← h2, bs_at (by simpa using h4)]; omega
theorem lB3 (h1 : (P : Int) ≤ q) (h2 : bs g q.toNat = bs g P) (h3 : ¬ q < g.length) : q = (bs g P : Nat) := by
  rw [← h2, bs_end (by omega)]; omega
end
end Mine
end
section
open PySem PySem.W PyProof.Rows in
theorem Mine.fresh_E3 : True := by
  k_with_none
  w_top off
  trivial
open PySem PySem.W PyProof.Rows PySem.Calls PySem.Builtin PySem.Builtin.Str
namespace Mine
def PJ (g : Str) (news : List (Addr × Obj)) (n : Nat) (m : Str → Option Value) (nx : List (Addr × Obj)) : Prop :=
  ∃ (P M : Nat) (tP tM tG : Tok) (l : Addr) (vs : List Value) (nn : Nat) (tl : List (Addr × Obj)) (rs : List Row),
    (∀ p ∈ [(Str.ofString "place", Value.int P tP), (Str.ofString "mark", Value.int M tM), (Str.ofString "found", Value.ref l), (Str.ofString "given", Value.str g tG)], m p.1 = some p.2) ∧
    nx = (l, listOf vs.toArray nn) :: tl ∧ (∀ p ∈ news, p ∈ tl) ∧ OwnOff tl [l] ∧ DatAll tl vs (rs.map Row.told) ∧ rs ++ rows g M (tags g P) = rowsOf g ∧ M ≤ P ∧ P ≤ g.length ∧ n = g.length - P ∧ vs.length ≤ P

theorem ktn_off {l : Addr} {news : List (Addr × Obj)} (h : ∀ p ∈ news, p.1 < l) : OwnOff news [l] := fun p hp b hb => by rw [List.mem_singleton.mp hb]; exact Nat.ne_of_lt (h p hp)
/-! ## the ends of a turn -/
section
variable {g : Str} {tl : List (Addr × Obj)} {D : Addr} {M P a e : Nat} {t t' tP t1 t2 : Tok}
theorem told_txt {p : Nat} {i : Int} {x y : Str} (e1 : i = p) (e2 : x = y) (hm : (D, tupO #[.int i t, .str x t', .none, .none, .none]) ∈ tl) : DatAll tl [.ref D] ([Row.txt p y].map Row.told) := by
  subst e1 e2
  exact .cons (.tuple (vs := [_, _, _, _, _]) hm (.cons (.int _ _) (.cons (.str _ _) (.cons .none (.cons .none (.cons .none .nil)))))) .nil
theorem dHead1 (hP : P ≤ g.length) (h : (M : Int) < P) (hm : (D, tupO #[.int (P : Int) tP, .str (Txt.slice g (some (M : Int)) (some (P : Int))) t, .none, .none, .none]) ∈ tl) : DatAll tl [.ref D] ((rowsHead g M P).map Row.told) := by
  unfold rowsHead
  rw [if_pos (by omega)]
  exact told_txt rfl (by rw [slice_mid (by omega) (by omega) (by omega)]; rfl) hm
theorem dHead0 (h : ¬ (M : Int) < P) : DatAll tl [] ((rowsHead g M P).map Row.told) := by
  unfold rowsHead
  rw [if_neg (by omega)]
  exact .nil
theorem dBs1 (h : 2 ≤ (a : Int) - P) (hm : (D, tupO #[.int (P : Int) tP, .str (bsl (((a : Int) - P).fdiv 2).toNat) t, .none, .none, .none]) ∈ tl) : DatAll tl [.ref D] ((if 2 ≤ a - P then [Row.txt P (bsl ((a - P) / 2))] else []).map Row.told) := by
  rw [if_pos (by omega)]
  refine told_txt rfl ?_ hm
  rw [Int.fdiv_eq_ediv_of_nonneg _ (by decide)]
  congr 1; omega
theorem dBs0 (h : ¬ 2 ≤ (a : Int) - P) : DatAll tl [] ((if 2 ≤ a - P then [Row.txt P (bsl ((a - P) / 2))] else []).map Row.told) := by
  rw [if_neg (by omega)]
  exact .nil
theorem place_is (hPa : P ≤ a) : (P : Int) + 2 * ((a : Int) - P).fdiv 2 = (P + 2 * ((a - P) / 2) : Nat) := by
  rw [Int.fdiv_eq_ediv_of_nonneg _ (by decide)]; omega
theorem dOdd (hPa : P ≤ a) (hae : a ≤ e) (he : e ≤ g.length) (h : ((a : Int) - P).fmod 2 = 1) (hm : (D, tupO #[.int ((P : Int) + 2 * ((a : Int) - P).fdiv 2) t, .str (Txt.slice g (some (a : Int)) (some (e : Int))) t', .none, .none, .none]) ∈ tl) :
    DatAll tl [.ref D] ([if (a - P) % 2 = 1 then Row.txt (P + 2 * ((a - P) / 2)) (sl g a e) else .tag (P + 2 * ((a - P) / 2)) (cutName (sl g (a + 1) (e - 1))) (cutVal (sl g (a + 1) (e - 1)))].map Row.told) := by
  rw [Int.fmod_eq_emod_of_nonneg _ (by decide)] at h
  rw [if_pos (by omega)]
  exact told_txt (place_is hPa) (by rw [slice_mid (by omega) (by omega) (by omega)]; rfl) hm
theorem dEven {v : Value} (hPa : P ≤ a) (hte : tagEnd g a = some e) (h : ((a : Int) - P).fmod 2 ≠ 1) (hv : optStr v (cutVal (Txt.slice g (some ((a : Int) + 1)) (some ((e : Int) - 1)))))
    (hm : (D, tupO #[.int ((P : Int) + 2 * ((a : Int) - P).fdiv 2) t, .none, .str (cutName (Txt.slice g (some ((a : Int) + 1)) (some ((e : Int) - 1)))) t1, v, .str (Txt.slice g (some (a : Int)) (some (e : Int))) t2]) ∈ tl) :
    DatAll tl [.ref D] ([if (a - P) % 2 = 1 then Row.txt (P + 2 * ((a - P) / 2)) (sl g a e) else .tag (P + 2 * ((a - P) / 2)) (cutName (sl g (a + 1) (e - 1))) (cutVal (sl g (a + 1) (e - 1)))].map Row.told) := by
  obtain ⟨e1, e2, _⟩ := tagEnd_gt hte
  rw [Int.fmod_eq_emod_of_nonneg _ (by decide)] at h
  rw [if_neg (by omega)]
  rw [slice_mid (by omega) (by omega) (by omega), slice_mid (by omega) (by omega) (by omega), place_is hPa, show ((a : Int) + 1).toNat = a + 1 by omega, show ((e : Int) - 1).toNat = e - 1 by omega, Int.toNat_natCast, Int.toNat_natCast, own_cut hte] at hm
  rw [slice_mid (by omega) (by omega) (by omega), show ((a : Int) + 1).toNat = a + 1 by omega, show ((e : Int) - 1).toNat = e - 1 by omega] at hv
  refine .cons (.tuple (vs := [_, _, _, _, _]) hm (.cons (.int _ _) (.cons .none (.cons (.str _ _) (.cons ?_ (.cons (.str _ _) .nil)))))) .nil
  rcases optStr_cases hv with ⟨q, rfl⟩ | ⟨x, tx, q, rfl⟩
  · rw [q]; exact .none
  · rw [q]; exact .str _ _
end
section
variable {g : Str} {news tl : List (Addr × Obj)} {l : Addr} {vs : List Value} {nn nn' n M P e : Nat} {rs : List Row} {h₀ h' : Heap} {L : Addr} {s : Shared} {Q : Flow → Shared → Prop} {m₂ : Str → Option Value} {A : Array Value} {tk : Nat} {tP tM tG : Tok} {f : Flow}
theorem leafTag (pre : List (Addr × Obj)) (vsN : List Value) (h5 : ∀ p ∈ news, p ∈ tl) (h6 : OwnOff tl [l]) (h7 : DatAll tl vs (rs.map Row.told)) (h8 : rs ++ rows g M (tags g P) = rowsOf g) (h10 : P ≤ g.length) (h11 : n = g.length - P) (h12 : vs.length ≤ P)
    (hlt : (P : Int) < g.length) (hte : tagEnd g ((bs g P : Nat) : Int).toNat = some e) (F : Fr h₀ L h' m₂) (N : News h₀ L h' (pre ++ (l, listOf A nn') :: tl)) (hA : A = (vs ++ vsN).toArray) (hlen : vsN.length ≤ 3)
    (hD : DatAll (pre ++ tl) vsN ((rowsHead g M P ++ rowsTag g P (bs g P) e).map Row.told)) (hoff : ∀ p ∈ pre, p.1 ≠ l)
    (hm : ∀ p ∈ [(Str.ofString "place", Value.int (e : Nat) tP), (Str.ofString "mark", Value.int (e : Nat) tM), (Str.ofString "found", Value.ref l), (Str.ofString "given", Value.str g tG)], m₂ p.1 = some p.2) :
    MyStep h₀ L s (PJ g news) Q n .next { s with heap := h', toks := tk } := by
  subst hA
  rw [Int.toNat_natCast] at hte
  obtain ⟨e1, e2, _⟩ := tagEnd_gt hte
  have e3 := bs_ge g P
  refine my_next (n' := g.length - e) (news₂ := (l, listOf (vs ++ vsN).toArray nn') :: (pre ++ tl)) (.inl rfl) F N ?_ (by omega) ⟨e, e, tP, tM, tG, l, vs ++ vsN, nn', pre ++ tl, rs ++ (rowsHead g M P ++ rowsTag g P (bs g P) e), hm, rfl, ?_, ?_, ?_, ?_, Nat.le_refl _, e2, rfl, ?_⟩
  · intro p hp
    rcases List.mem_cons.mp hp with rfl | hp
    · exact List.mem_append.mpr (.inr (.head _))
    · exact (List.mem_append.mp hp).elim (fun h => List.mem_append.mpr (.inl h)) fun h => List.mem_append.mpr (.inr (.tail _ h))
  · exact fun p hp => List.mem_append.mpr (.inr (h5 p hp))
  · intro p hp b hb
    rw [List.mem_singleton.mp hb]
    exact (List.mem_append.mp hp).elim (hoff p) fun h => h6 p h l (.head _)
  · rw [List.map_append]
    exact (h7.mono fun p hp => List.mem_append.mpr (.inr hp)).append hD
  · rw [← h8, tags_some (by omega) hte]
    show _ = rs ++ (rowsHead g M P ++ (rowsTag g P (bs g P) e ++ rows g e (tags g e)))
    simp only [List.append_assoc]
  · rw [List.length_append]; omega
theorem leafNone {x : Addr × Obj} {i : Int} (h5 : ∀ p ∈ news, p ∈ tl) (h6 : OwnOff tl [l]) (h7 : DatAll tl vs (rs.map Row.told)) (h8 : rs ++ rows g M (tags g P) = rowsOf g) (h9 : M ≤ P) (h10 : P ≤ g.length) (h11 : n = g.length - P) (h12 : vs.length ≤ P)
    (hlt : (P : Int) < g.length) (hte : tagEnd g ((bs g P : Nat) : Int).toNat = none) (F : Fr h₀ L h' m₂) (N : News h₀ L h' (x :: (l, listOf vs.toArray nn') :: tl)) (ha : i = (bs g P : Nat) ∨ i = (P : Int) + 1) (hb : ((bs g P : Nat) : Int) ≤ i ∧ (P : Int) + 1 ≤ i)
    (hm : ∀ p ∈ [(Str.ofString "place", Value.int i tP), (Str.ofString "mark", Value.int (M : Nat) tM), (Str.ofString "found", Value.ref l), (Str.ofString "given", Value.str g tG)], m₂ p.1 = some p.2) :
    MyStep h₀ L s (PJ g news) Q n .cont { s with heap := h', toks := tk } := by
  rw [Int.toNat_natCast] at hte
  have e3 := bs_le h10
  obtain rfl : i = ((max (bs g P) (P + 1) : Nat) : Int) := by omega
  refine my_next (n' := g.length - max (bs g P) (P + 1)) (news₂ := (l, listOf vs.toArray nn') :: tl) (.inr rfl) F N (fun p hp => .tail _ hp) (by omega)
    ⟨max (bs g P) (P + 1), M, tP, tM, tG, l, vs, nn', tl, rs, hm, rfl, h5, h6, h7, ?_, by omega, by omega, rfl, by omega⟩
  rw [← h8, tags_skip (by omega) hte]
theorem dAll {tl' : List (Addr × Obj)} {a : Nat} {v1 v2 v3 : List Value} (hH : DatAll tl' v1 ((rowsHead g M P).map Row.told)) (hB : DatAll tl' v2 ((if 2 ≤ a - P then [Row.txt P (bsl ((a - P) / 2))] else []).map Row.told))
    (hL : DatAll tl' v3 ([if (a - P) % 2 = 1 then Row.txt (P + 2 * ((a - P) / 2)) (sl g a e) else .tag (P + 2 * ((a - P) / 2)) (cutName (sl g (a + 1) (e - 1))) (cutVal (sl g (a + 1) (e - 1)))].map Row.told)) :
    DatAll tl' (v1 ++ (v2 ++ v3)) ((rowsHead g M P ++ rowsTag g P a e).map Row.told) := by
  unfold rowsTag
  rw [List.map_append, List.map_append]
  exact hH.append (hB.append hL)
theorem push1 (vs : List Value) (a : Value) : vs.toArray.push a = (vs ++ [a]).toArray := by simp
theorem push2 (vs : List Value) (a b : Value) : (vs.toArray.push a).push b = (vs ++ [a, b]).toArray := by simp
theorem push3 (vs : List Value) (a b c : Value) : ((vs.toArray.push a).push b).push c = (vs ++ [a, b, c]).toArray := by simp
theorem leafEnd {D : Addr} {t t' : Tok} {h' : Heap} (h7 : DatAll tl vs (rs.map Row.told)) (h8 : rs ++ rows g M (tags g P) = rowsOf g) (h1 : ¬ (P : Int) < g.length) (h2 : (M : Int) < g.length) (hA : A = (vs ++ [Value.ref D]).toArray)
    (N : News h₀ L h' ((D, tupO #[.int (M : Int) t, .str (Txt.slice g (some (M : Int)) none) t', .none, .none, .none]) :: (l, listOf A nn') :: tl)) :
    News h₀ L h' ((l, listOf (vs ++ [Value.ref D]).toArray nn') :: (D, tupO #[.int (M : Int) t, .str (Txt.slice g (some (M : Int)) none) t', .none, .none, .none]) :: tl) ∧
    DatAll ((D, tupO #[.int (M : Int) t, .str (Txt.slice g (some (M : Int)) none) t', .none, .none, .none]) :: tl) (vs ++ [.ref D]) ((rowsOf g).map Row.told) := by
  subst hA
  refine ⟨news_sub N fun p hp => ?_, ?_⟩
  · rcases List.mem_cons.mp hp with rfl | hp
    · exact .tail _ (.head _)
    · rcases List.mem_cons.mp hp with rfl | hp
      · exact .head _
      · exact .tail _ (.tail _ hp)
  · rw [← h8, tags_end (by omega), List.map_append]
    refine (h7.mono fun p hp => .tail _ hp).append ?_
    unfold rows
    rw [if_pos (by omega)]
    exact told_txt rfl (by rw [slice_from (by omega) (by omega)]; rfl) (.head _)
theorem leafEnd0 (h7 : DatAll tl vs (rs.map Row.told)) (h8 : rs ++ rows g M (tags g P) = rowsOf g) (h1 : ¬ (P : Int) < g.length) (h2 : ¬ (M : Int) < g.length) : DatAll tl vs ((rowsOf g).map Row.told) := by
  rw [← h8, tags_end (by omega)]
  unfold rows
  rw [if_neg (by omega), List.append_nil]
  exact h7
end
set_option maxRecDepth 100000 in
set_option maxHeartbeats 8000000 in
theorem c_pieces {w : World} {mean : ExcName → Option Value} {mg mb : Str → Option Value} {dp un : Nat} {gd : Option (List Code)} {cn : Str} {cs : Scope} {a : Addr} {ccd : Value} {cl : List (Str × Addr)} {outer : List Env} {A₀ : Around} {base h₀ : Heap} {L : Addr} {m : Str → Option Value} {news : List (Addr × Obj)} {s : Shared} {Q E : Value → Shared → Prop} {g : Str} {t1 : Tok} (B : Below A₀ base outer h₀) (F : Fr h₀ L s.heap m) (X : (Mine.hd.heap_39 w.params).In h₀) (N : News h₀ L s.heap news)
    (T : Top Mine.hd.view_39 (looseW Mine.hd.view_39 [Str.ofString "_tuplegetter", Str.ofString "RE_TAGS", Str.ofString "Tag"]) mean mg mb h₀) (hk : cs.kind = .function) (hg : g.length ≤ 1048576) (hd : dp + 2 < recursionLimit)
    (hret : ∀ l vs nn tl h' tk', Fr h₀ L h' m → News h₀ L h' ((l, listOf vs.toArray nn) :: tl) → (∀ p ∈ news, p ∈ tl) → DatAll tl vs ((rowsOf g).map Row.told) → Q (.ref l) { s with heap := h', toks := tk' }) :
    wpAny (model PySem.Challenge.rw_ff5019_01.row.prog w) (ktrTop dp un gd cn cs L a ccd cl outer) (call (.ref 219) [.str g t1]) Q E s := by
  revert X; k_fill; intro X
  refine wpAny_call ?_
  k_dflt cell_enter
  k_with "exec While Compare cons nil" => (
    (rename Fr _ _ _ _ => lF'); (rename News _ _ _ _ => lN')
    (with_unfolding_all refine' my_while (news := (_, listOf #[] 0) :: news) (PJ g news) g.length lF' lN' ?hJ ?hs ?turn ?hE)
    (case hE => passes_own)
    (case hJ => exact ⟨0, 0, _, _, _, _, [], 0, news, [], by kst_all, rfl, fun _ h => h, ktn_off (by assumption), .nil, rfl, Nat.le_refl _, Nat.zero_le _, rfl, Nat.le_refl _⟩)
    (case hs => exact fun p hp => .tail _ hp)
    intro n m₁ nx h tk F₁ N₁ hJ
    obtain ⟨P, M, tP, tM, tG, l, vs, nn, tl, rs, h1, rfl, h5, h6, h7, h8, h9, h10, h11, h12⟩ := hJ
    have F₂ := put_fr F₁ _ h1
    dsimp only [put] at F₂
    clear F₁ h1)
  k_with "state" => first | exact lB0 (by assumption) | exact lB1 (by assumption) (by assumption) (by assumption) (by assumption)
  k_with "call ref" => first
    | ((refine c_end (by k_asm) (by k_asm) (by k_asm) (by k_asm) (by k_asm) (by exact rfl) (by omega) hg (by ktr_room) ?_); intro r9 h9 tk9 hr9 F9 N9; (rcases optInt_cases hr9 with ⟨hte, rfl⟩ | ⟨e9, te9, hte, rfl⟩) <;> (clear hr9; (try dsimp only); (try k_fold)))
    | ((refine c_cut (by k_asm) (by k_asm) (by k_asm) (by k_asm) (by k_asm) (by exact rfl) (by omega) (by ktr_room) ?_); intro D9 t9 v9 h9 tk9 hv9 F9 N9 l9; (replace l9 := allLt_of l9); (simp only [AllLt, and_true] at l9); (try dsimp only); (try k_fold))
  k_with "exec While BoolOp" => first
    | ((with_reducible show wpAny _ _ _ (BsEnd _ _ _ _ _ _) _ _); k_while (fun _ at_ => P ≤ at_ ∧ at_ ≤ g.length ∧ bs g at_.toNat = bs g P) (fun _ at_ => (g.length - at_).toNat) "at")
    | ((rename Fr _ _ _ _ => lF'); (rename News _ _ _ _ => lN'); (refine' bs_while (bs g P) lF' lN' ?hin (fun hb9 tkb9 tb9 Fb9 Nb9 => ?hout)); (all_goals (try dsimp only)))
  k_with "binaryOp Mult str int" => ((refine mul_bs (by (rw [Int.fdiv_eq_ediv_of_nonneg _ (by decide)]; omega)) (by (rw [Int.fdiv_eq_ediv_of_nonneg _ (by decide)]; have := bs_le (g := g) h10; omega)) ?_); intro t9 tk9; (try dsimp only))
  k_steps
  all_goals try first
    | exact bs_out (lB2 (by assumption) (by assumption) (by assumption)) (by assumption) (by funext y; rfl) (by assumption)
    | exact bs_out (lB3 (by assumption) (by assumption) (by assumption)) (by assumption) (by funext y; rfl) (by assumption)
  all_goals try dsimp only
  · exact leafNone h5 h6 h7 h8 (by assumption) h10 h11 h12 (by assumption) hte (by assumption) (by assumption) (by assumption) (by assumption) (by kst_all)
  · refine leafTag [_, _, _, _] [_, _, _] h5 h6 h7 h8 h10 h11 h12 (by assumption) hte (by assumption) (by assumption) (push3 ..) (by simp) ?_ (List.forall_mem_cons.mpr ⟨by k_ne, List.forall_mem_cons.mpr ⟨by k_ne, List.forall_mem_cons.mpr ⟨by k_ne, List.forall_mem_cons.mpr ⟨by k_ne, List.forall_mem_nil _⟩⟩⟩⟩) (by kst_all)
    (rw [Int.toNat_natCast] at hte)
    exact dAll (dHead1 h10 (by assumption) (List.mem_append.mpr (.inl (.tail _ (.tail _ (.tail _ (.head _))))))) (dBs1 (by assumption) (List.mem_append.mpr (.inl (.tail _ (.tail _ (.head _)))))) (dOdd (bs_ge g P) (by have := tagEnd_gt hte; omega) (tagEnd_gt hte).2.1 (by assumption) (List.mem_append.mpr (.inl (.tail _ (.head _)))))
  · refine leafTag [_, _, _, _, _] [_, _, _] h5 h6 h7 h8 h10 h11 h12 (by assumption) hte (by assumption) (by assumption) (push3 ..) (by simp) ?_ (List.forall_mem_cons.mpr ⟨by k_ne, List.forall_mem_cons.mpr ⟨by k_ne, List.forall_mem_cons.mpr ⟨by k_ne, List.forall_mem_cons.mpr ⟨by k_ne, List.forall_mem_cons.mpr ⟨by k_ne, List.forall_mem_nil _⟩⟩⟩⟩⟩) (by kst_all)
    (rw [Int.toNat_natCast] at hte)
    exact dAll (dHead1 h10 (by assumption) (List.mem_append.mpr (.inl (.tail _ (.tail _ (.tail _ (.tail _ (.head _)))))))) (dBs1 (by assumption) (List.mem_append.mpr (.inl (.tail _ (.tail _ (.tail _ (.head _))))))) (dEven (bs_ge g P) hte (by assumption) (by assumption) (List.mem_append.mpr (.inl (.tail _ (.head _)))))
  · refine leafTag [_, _, _] [_, _] h5 h6 h7 h8 h10 h11 h12 (by assumption) hte (by assumption) (by assumption) (push2 ..) (by simp) ?_ (List.forall_mem_cons.mpr ⟨by k_ne, List.forall_mem_cons.mpr ⟨by k_ne, List.forall_mem_cons.mpr ⟨by k_ne, List.forall_mem_nil _⟩⟩⟩) (by kst_all)
    (rw [Int.toNat_natCast] at hte)
    exact dAll (dHead1 h10 (by assumption) (List.mem_append.mpr (.inl (.tail _ (.tail _ (.head _)))))) (dBs0 (by assumption)) (dOdd (bs_ge g P) (by have := tagEnd_gt hte; omega) (tagEnd_gt hte).2.1 (by assumption) (List.mem_append.mpr (.inl (.tail _ (.head _)))))
  · refine leafTag [_, _, _, _] [_, _] h5 h6 h7 h8 h10 h11 h12 (by assumption) hte (by assumption) (by assumption) (push2 ..) (by simp) ?_ (List.forall_mem_cons.mpr ⟨by k_ne, List.forall_mem_cons.mpr ⟨by k_ne, List.forall_mem_cons.mpr ⟨by k_ne, List.forall_mem_cons.mpr ⟨by k_ne, List.forall_mem_nil _⟩⟩⟩⟩) (by kst_all)
    (rw [Int.toNat_natCast] at hte)
    exact dAll (dHead1 h10 (by assumption) (List.mem_append.mpr (.inl (.tail _ (.tail _ (.tail _ (.head _))))))) (dBs0 (by assumption)) (dEven (bs_ge g P) hte (by assumption) (by assumption) (List.mem_append.mpr (.inl (.tail _ (.head _)))))
  · refine leafTag [_, _, _] [_, _] h5 h6 h7 h8 h10 h11 h12 (by assumption) hte (by assumption) (by assumption) (push2 ..) (by simp) ?_ (List.forall_mem_cons.mpr ⟨by k_ne, List.forall_mem_cons.mpr ⟨by k_ne, List.forall_mem_cons.mpr ⟨by k_ne, List.forall_mem_nil _⟩⟩⟩) (by kst_all)
    (rw [Int.toNat_natCast] at hte)
    exact dAll (dHead0 (by assumption)) (dBs1 (by assumption) (List.mem_append.mpr (.inl (.tail _ (.tail _ (.head _)))))) (dOdd (bs_ge g P) (by have := tagEnd_gt hte; omega) (tagEnd_gt hte).2.1 (by assumption) (List.mem_append.mpr (.inl (.tail _ (.head _)))))
  · refine leafTag [_, _, _, _] [_, _] h5 h6 h7 h8 h10 h11 h12 (by assumption) hte (by assumption) (by assumption) (push2 ..) (by simp) ?_ (List.forall_mem_cons.mpr ⟨by k_ne, List.forall_mem_cons.mpr ⟨by k_ne, List.forall_mem_cons.mpr ⟨by k_ne, List.forall_mem_cons.mpr ⟨by k_ne, List.forall_mem_nil _⟩⟩⟩⟩) (by kst_all)
    (rw [Int.toNat_natCast] at hte)
    exact dAll (dHead0 (by assumption)) (dBs1 (by assumption) (List.mem_append.mpr (.inl (.tail _ (.tail _ (.tail _ (.head _))))))) (dEven (bs_ge g P) hte (by assumption) (by assumption) (List.mem_append.mpr (.inl (.tail _ (.head _)))))
  · refine leafTag [_, _] [_] h5 h6 h7 h8 h10 h11 h12 (by assumption) hte (by assumption) (by assumption) (push1 ..) (by simp) ?_ (List.forall_mem_cons.mpr ⟨by k_ne, List.forall_mem_cons.mpr ⟨by k_ne, List.forall_mem_nil _⟩⟩) (by kst_all)
    (rw [Int.toNat_natCast] at hte)
    exact dAll (dHead0 (by assumption)) (dBs0 (by assumption)) (dOdd (bs_ge g P) (by have := tagEnd_gt hte; omega) (tagEnd_gt hte).2.1 (by assumption) (List.mem_append.mpr (.inl (.tail _ (.head _)))))
  · refine leafTag [_, _, _] [_] h5 h6 h7 h8 h10 h11 h12 (by assumption) hte (by assumption) (by assumption) (push1 ..) (by simp) ?_ (List.forall_mem_cons.mpr ⟨by k_ne, List.forall_mem_cons.mpr ⟨by k_ne, List.forall_mem_cons.mpr ⟨by k_ne, List.forall_mem_nil _⟩⟩⟩) (by kst_all)
    (rw [Int.toNat_natCast] at hte)
    exact dAll (dHead0 (by assumption)) (dBs0 (by assumption)) (dEven (bs_ge g P) hte (by assumption) (by assumption) (List.mem_append.mpr (.inl (.tail _ (.head _)))))
  · (rename News h₀ L _ _ => hN9)
    obtain ⟨hN, hD⟩ := leafEnd h7 h8 (by assumption) (by assumption) (push1 ..) hN9
    exact hret _ _ _ _ _ _ (by assumption) hN (fun p hp => .tail _ (h5 p hp)) hD
  · exact hret _ _ _ _ _ _ (by assumption) (by assumption) h5 (leafEnd0 h7 h8 (by assumption) (by assumption))
end Mine
end
section
open PySem PySem.W PyProof.Rows in
theorem Mine.fresh_R1 : True := by
  k_with_none
  w_top off
  trivial
open PySem PySem.Sre PySem.W
namespace Mine
def CODE : Array Nat := #[14, 4, 0, 3, 4294967295, 17, 0, 17, 2, 24, 6, 0, 4294967295, 16, 92, 1, 17, 3, 16, 91, 17, 4, 13, 11, 9, 0, 32776, 1, 134217726, 0, 0, 0, 0, 0, 26, 6, 0, 4294967295, 20, 91, 1, 17, 5, 16, 93, 17, 1, 1]
def Sx (g : Str) (st pc pos handed : Nat) (marks : Array (Option Nat)) (lm li : Int) (fr : List Sre.Frame) (wt : Nat) (ans : Option Bool) (seen : Seen) (oc : Option Sre.Outcome) : M :=
  { code := CODE, text := g.cps, lim := g.length, start := st, pc, pos, handed, marks, lastmark := lm, lastindex := li, frames := fr, weight := wt, answer := ans, seen, outcome := oc }
def fG (n : Int) (q : Nat) : Sre.Frame := { wait := .giveBack, pc := 9, pos := q, outermost := true, count := n, kept := { lastmark := 2, lastindex := -1 } }
def fT (n : Int) (q : Nat) : Sre.Frame := { wait := .takeMore, pc := 34, pos := q, outermost := true, count := n, kept := { lastmark := 4, lastindex := 2 } }

theorem forMatch_is (g : Str) (p : Nat) : Sre.forMatch CODE g.cps 3 p g.length false false =
   if p ≤ g.length ∧ g.length - p < 3 then Sx g p 5 p p #[none, none, none, none, none, none] (-1) (-1) [] 0 (some false) (({} : Seen).add 14) none
   else Sx g p 5 p p #[none, none, none, none, none, none] (-1) (-1) [] 0 none (({} : Seen).add 14) none := by
  unfold Sre.forMatch
  have h1 : (Sre.header CODE) = (3, 5) := by decide +kernel
  simp only [h1]
  by_cases h : p ≤ g.length ∧ g.length - p < 3
  · rw [if_pos h]
    simp [h.1, h.2]
    rfl
  · rw [if_neg h]
    have h2 : (((3 : Nat) != 0 && decide (p ≤ g.length)) && decide (g.length - p < 3)) = false := by
      simp only [not_and] at h
      by_cases h3 : p ≤ g.length
      · simp [h3, h h3]
      · simp [h3]
    rw [if_neg (by simpa using h2)]
    rfl
section
variable {g : Str} {st pos hd wt n q : Nat} {mk : Array (Option Nat)} {fr : List Sre.Frame} {seen : Seen} {i lm li : Int}
theorem st_mark0 : (Sx g st 5 pos hd #[none, none, none, none, none, none] (-1) (-1) [] 0 none seen none).step = Sx g st 7 pos hd #[some pos, none, none, none, none, none] 0 (-1) [] 0 none (seen.add 17) none := rfl
theorem st_mark2 : (Sx g st 7 pos hd #[some pos, none, none, none, none, none] 0 (-1) [] 0 none seen none).step = Sx g st 9 pos hd #[some pos, none, some pos, none, none, none] 2 (-1) [] 0 none (seen.add 17) none := by
  show M.mark (Sx g st 7 pos hd #[some pos, none, none, none, none, none] 0 (-1) [] 0 none (seen.add 17) none) 2 = _
  simp [M.mark, Sx, List.range, List.range.loop]
  omega
theorem run_bs (hg : g.length ≤ 1048576) : ∀ (k q f : Nat) (seen : Seen), q + k = g.length → Sre.run CODE g.cps 13 k q f seen = .ok (f + (bs g q - q), seen) := by
  intro k
  induction k with
  | zero => intro q f seen h; rw [bs_end (by omega), Nat.sub_self]; rfl
  | succ k ih =>
    intro q f seen h
    have e : accepts CODE 13 (g.cps.getD q 0) seen = .ok (g.cps.getD q 0 == 92, seen) := rfl
    have e2 : g.cps.getD q 0 = ch g q := by unfold ch; rfl
    unfold Sre.run
    rw [e, e2]
    by_cases hc : ch g q = 92
    · rw [hc]
      show Sre.run CODE g.cps 13 k (q + 1) (f + 1) seen = _
      rw [ih (q + 1) (f + 1) seen (by omega), bs_lt (by omega) hc]
      have := bs_ge g (q + 1)
      congr 2; omega
    · have e3 : (ch g q == 92) = false := by simpa using hc
      rw [e3, bs_at hc, Nat.sub_self]
      rfl
theorem st_many (hg : g.length ≤ 1048576) (hp : pos ≤ g.length) : (Sx g st 9 pos hd mk 2 (-1) [] 0 none seen none).step = Sx g st 16 (bs g pos) (bs g pos) mk 2 (-1) [fG (bs g pos - pos : Nat) (bs g pos)] 1 none ((seen.add 24).add 16) none := by
  have hr : ((g.length : Int) - (pos : Nat)).toNat = g.length - pos := by omega
  have h0 : ¬ (((0 : Nat) : Int) > (g.length : Int) - (pos : Nat)) := by omega
  show (if ((0 : Nat) : Int) > (g.length : Int) - (pos : Nat) then _ else (match Sre.run CODE g.cps 13 (min 4294967295 ((g.length : Int) - (pos : Nat)).toNat) pos 0 ((seen.add 24).add 16) with | .error why => _ | .ok (n, seen) => _)) = _
  rw [if_neg h0, hr, Nat.min_eq_right (by omega), run_bs hg (g.length - pos) pos 0 _ (by omega)]
  have e := bs_ge g pos
  show (if 0 + (bs g pos - pos) < 0 then _ else _) = _
  rw [if_neg (by omega), Nat.zero_add]
  show Sx g st 16 (pos + (bs g pos - pos)) (pos + (bs g pos - pos)) mk 2 (-1) [fG (bs g pos - pos : Nat) (pos + (bs g pos - pos))] 1 none _ none = _
  rw [show pos + (bs g pos - pos) = bs g pos by omega]
theorem st_mark3 : (Sx g st 16 q hd mk 2 (-1) fr wt none seen none).step = Sx g st 18 q hd (mk.setIfInBounds 3 (some q)) 3 2 fr wt none (seen.add 17) none := by
  show M.mark (Sx g st 16 q hd mk 2 (-1) fr wt none (seen.add 17) none) 3 = _
  simp [M.mark, Sx]
  omega
theorem st_lb_out (h : g.length ≤ q) : (Sx g st 18 q hd mk 3 2 fr wt none seen none).step = Sx g st 18 q hd mk 3 2 fr wt (some false) (seen.add 16) none := by
  show (if q ≥ g.length then _ else _) = _
  rw [if_pos h]; rfl
theorem st_lb (h : q < g.length) : (Sx g st 18 q hd mk 3 2 fr wt none seen none).step = if ch g q = 91 then Sx g st 20 (q + 1) hd mk 3 2 fr wt none (seen.add 16) none else Sx g st 18 q hd mk 3 2 fr wt (some false) (seen.add 16) none := by
  show (if q ≥ g.length then _ else (match accepts CODE 18 (g.cps.getD q 0) (seen.add 16) with | .error why => _ | .ok (false, seen) => _ | .ok (true, seen) => _)) = _
  have e2 : g.cps.getD q 0 = ch g q := by unfold ch; rfl
  rw [if_neg (by omega), show accepts CODE 18 (g.cps.getD q 0) (seen.add 16) = .ok (g.cps.getD q 0 == 91, seen.add 16) from rfl, e2]
  by_cases hc : ch g q = 91
  · rw [if_pos hc, show (ch g q == 91) = true by simpa using hc]; rfl
  · rw [if_neg hc, show (ch g q == 91) = false by simpa using hc]; rfl
theorem st_mark4 : (Sx g st 20 q hd mk 3 2 fr wt none seen none).step = Sx g st 22 q hd (mk.setIfInBounds 4 (some q)) 4 2 fr wt none (seen.add 17) none := by
  show M.mark (Sx g st 20 q hd mk 3 2 fr wt none (seen.add 17) none) 4 = _
  simp [M.mark, Sx]
  omega
theorem st_head_out (h : g.length ≤ q) : (Sx g st 22 q hd mk 4 2 fr wt none seen none).step = Sx g st 22 q hd mk 4 2 fr wt (some false) (seen.add 13) none := by
  show (if q ≥ g.length then _ else _) = _
  rw [if_pos h]; rfl
theorem bit1 (c : Nat) : (32776 : Nat).testBit c = (c == 3 || c == 15) := by
  by_cases h : c < 16
  · revert c; decide
  · have h1 : (32776 : Nat) < 2 ^ c := Nat.lt_of_lt_of_le (by decide : (32776 : Nat) < 2 ^ 16) (Nat.pow_le_pow_right (by decide) (by omega))
    rw [Nat.testBit_lt_two_pow h1]
    have a : (c == 3) = false := by simp; omega
    have b : (c == 15) = false := by simp; omega
    rw [a, b]; rfl
theorem bit2 (c : Nat) : (1 : Nat).testBit c = (c == 0) := by
  by_cases h : c < 1
  · revert c; decide
  · have h1 : (1 : Nat) < 2 ^ c := Nat.lt_of_lt_of_le (by decide : (1 : Nat) < 2 ^ 1) (Nat.pow_le_pow_right (by decide) (by omega))
    rw [Nat.testBit_lt_two_pow h1]
    have a : (c == 0) = false := by simp; omega
    rw [a]
theorem bit3 (c : Nat) : (134217726 : Nat).testBit c = (decide (1 ≤ c) && decide (c ≤ 26)) := by
  by_cases h : c < 27
  · revert c; decide
  · have h1 : (134217726 : Nat) < 2 ^ c := Nat.lt_of_lt_of_le (by decide : (134217726 : Nat) < 2 ^ 27) (Nat.pow_le_pow_right (by decide) (by omega))
    rw [Nat.testBit_lt_two_pow h1]
    have b : decide (c ≤ 26) = false := by simp; omega
    rw [b, Bool.and_false]
theorem charset (c : Nat) : (decide (c < 256) && (CODE.getD (24 + (1 + c / 32)) 0).testBit (c % 32)) = isHead c := by
  have hd : c = 32 * (c / 32) + c % 32 := (Nat.div_add_mod c 32).symm
  have hm : c % 32 < 32 := Nat.mod_lt _ (by decide)
  unfold isHead
  generalize c / 32 = k at *
  generalize c % 32 = r at *
  subst hd
  by_cases h : k < 8
  · have : k = 0 ∨ k = 1 ∨ k = 2 ∨ k = 3 ∨ k = 4 ∨ k = 5 ∨ k = 6 ∨ k = 7 := by omega
    have e0 : CODE.getD (24 + (1 + 0)) 0 = 0 := rfl
    have e1 : CODE.getD (24 + (1 + 1)) 0 = 32776 := rfl
    have e2 : CODE.getD (24 + (1 + 2)) 0 = 1 := rfl
    have e3 : CODE.getD (24 + (1 + 3)) 0 = 134217726 := rfl
    have e4 : CODE.getD (24 + (1 + 4)) 0 = 0 := rfl
    have e5 : CODE.getD (24 + (1 + 5)) 0 = 0 := rfl
    have e6 : CODE.getD (24 + (1 + 6)) 0 = 0 := rfl
    have e7 : CODE.getD (24 + (1 + 7)) 0 = 0 := rfl
    rw [Bool.eq_iff_iff]
    rcases this with rfl | rfl | rfl | rfl | rfl | rfl | rfl | rfl
    · rw [e0, Nat.zero_testBit]; simp; omega
    · rw [e1, bit1]; simp; omega
    · rw [e2, bit2]; simp; omega
    · rw [e3, bit3]; simp; omega
    · rw [e4, Nat.zero_testBit]; simp; omega
    · rw [e5, Nat.zero_testBit]; simp; omega
    · rw [e6, Nat.zero_testBit]; simp; omega
    · rw [e7, Nat.zero_testBit]; simp; omega
  · rw [Bool.eq_iff_iff]; simp; omega
theorem set_heads (c : Nat) (seen : Seen) : accepts CODE 22 c seen = .ok (isHead c, (seen.add 9).add 0) ∨ accepts CODE 22 c seen = .ok (isHead c, seen.add 9) := by
  have e : accepts CODE 22 c seen = if (decide (c < 256) && (CODE.getD (24 + (1 + c / 32)) 0).testBit (c % 32)) = true then .ok (true, seen.add 9) else .ok (false, (seen.add 9).add 0) := rfl
  rw [e, charset]
  cases h : isHead c with
  | true => exact .inr rfl
  | false => exact .inl rfl
theorem st_head (h : q < g.length) : ∃ seen', (Sx g st 22 q hd mk 4 2 fr wt none seen none).step = if isHead (ch g q) = true then Sx g st 34 (q + 1) hd mk 4 2 fr wt none seen' none else Sx g st 22 q hd mk 4 2 fr wt (some false) seen' none := by
  have e2 : g.cps.getD q 0 = ch g q := by unfold ch; rfl
  have key : ∀ s', accepts CODE 22 (ch g q) (seen.add 13) = .ok (isHead (ch g q), s') → ∃ seen', (Sx g st 22 q hd mk 4 2 fr wt none seen none).step = if isHead (ch g q) = true then Sx g st 34 (q + 1) hd mk 4 2 fr wt none seen' none else Sx g st 22 q hd mk 4 2 fr wt (some false) seen' none := by
    intro s' hs
    refine ⟨s', ?_⟩
    show (if q ≥ g.length then _ else (match accepts CODE 22 (g.cps.getD q 0) (seen.add 13) with | .error why => _ | .ok (false, seen) => _ | .ok (true, seen) => _)) = _
    rw [if_neg (by omega), e2, hs]
    cases isHead (ch g q) with
    | true => rfl
    | false => rfl
  rcases set_heads (ch g q) (seen.add 13) with h | h
  · exact key _ h
  · exact key _ h
theorem st_lazy (h : q ≤ g.length) : (Sx g st 34 q hd mk 4 2 fr 1 none seen none).step = Sx g st 41 q q mk 4 2 (fT 0 q :: fr) 2 none ((seen.add 26).add 20) none := by
  have h0 : ¬ (((0 : Nat) : Int) > (g.length : Int) - (q : Nat)) := by omega
  show (if ((0 : Nat) : Int) > (g.length : Int) - (q : Nat) then _ else _) = _
  rw [if_neg h0]
  rfl
theorem st_mark5 : (Sx g st 41 q hd mk 4 2 fr wt none seen none).step = Sx g st 43 q hd (mk.setIfInBounds 5 (some q)) 5 3 fr wt none (seen.add 17) none := by
  show M.mark (Sx g st 41 q hd mk 4 2 fr wt none (seen.add 17) none) 5 = _
  simp [M.mark, Sx]
  omega
theorem st_rb_out (h : g.length ≤ q) : (Sx g st 43 q hd mk 5 3 fr wt none seen none).step = Sx g st 43 q hd mk 5 3 fr wt (some false) (seen.add 16) none := by
  show (if q ≥ g.length then _ else _) = _
  rw [if_pos h]; rfl
theorem st_rb (h : q < g.length) : (Sx g st 43 q hd mk 5 3 fr wt none seen none).step = if ch g q = 93 then Sx g st 45 (q + 1) hd mk 5 3 fr wt none (seen.add 16) none else Sx g st 43 q hd mk 5 3 fr wt (some false) (seen.add 16) none := by
  show (if q ≥ g.length then _ else (match accepts CODE 43 (g.cps.getD q 0) (seen.add 16) with | .error why => _ | .ok (false, seen) => _ | .ok (true, seen) => _)) = _
  have e2 : g.cps.getD q 0 = ch g q := by unfold ch; rfl
  rw [if_neg (by omega), show accepts CODE 43 (g.cps.getD q 0) (seen.add 16) = .ok (g.cps.getD q 0 == 93, seen.add 16) from rfl, e2]
  by_cases hc : ch g q = 93
  · rw [if_pos hc, show (ch g q == 93) = true by simpa using hc]; rfl
  · rw [if_neg hc, show (ch g q == 93) = false by simpa using hc]; rfl
theorem st_mark1 : (Sx g st 45 q hd mk 5 3 fr wt none seen none).step = Sx g st 47 q hd (mk.setIfInBounds 1 (some q)) 5 1 fr wt none (seen.add 17) none := by
  show M.mark (Sx g st 45 q hd mk 5 3 fr wt none (seen.add 17) none) 1 = _
  simp [M.mark, Sx]
  omega
theorem st_success : (Sx g st 47 q hd mk 5 1 fr wt none seen none).step = Sx g st 47 q q mk 5 1 fr wt (some true) (seen.add 1) none := rfl
theorem st_yesT {pc qq : Nat} {n : Int} : (Sx g st pc pos hd mk 5 1 [fT i q, fG n qq] 2 (some true) seen none).step = Sx g st 34 q hd mk 5 1 [fG n qq] 1 (some true) seen none := rfl
theorem st_yesG {pc : Nat} : (Sx g st pc pos hd mk 5 1 [fG i q] 1 (some true) seen none).step = Sx g st 9 q hd mk 5 1 [] 0 (some true) seen none := rfl
theorem st_done {pc : Nat} : (Sx g st pc pos hd mk 5 1 [] 0 (some true) seen none).step = Sx g st pc pos hd mk 5 1 [] 0 (some true) seen (some .matched) := rfl
theorem st_lost {pc : Nat} : (Sx g st pc pos hd mk lm li [] 0 (some false) seen none).step = Sx g st pc pos hd mk lm li [] 0 (some false) seen (some .failed) := rfl
end
end Mine
end
section
open PySem PySem.W PyProof.Rows in
theorem Mine.fresh_R2 : True := by
  k_with_none
  w_top off
  trivial
open PySem PySem.Sre PySem.W
namespace Mine
section
variable {g : Str} {st pos hd wt n q pc : Nat} {mk : Array (Option Nat)} {fr : List Sre.Frame} {seen : Seen} {i lm li : Int}
theorem st_noT {k : Int} {f : Sre.Frame} : (Sx g st pc pos hd mk lm li [fT k q, f] 2 (some false) seen none).step =
    if q < g.length ∧ ch g q ≠ 91 then Sx g st 41 (q + 1) (q + 1) mk 4 2 [fT (k + 1) (q + 1), f] 2 none seen none else Sx g st 34 q hd mk 4 2 [f] 1 (some false) seen none := by
  show (if (decide (k + 1 > ((4294967295 : Nat) : Int)) && ((4294967295 : Nat) != 4294967295)) = true then _ else if q ≥ g.length then _ else (match accepts CODE 38 (g.cps.getD q 0) seen with | .error why => _ | .ok (false, seen) => _ | .ok (true, seen) => _)) = _
  have e2 : g.cps.getD q 0 = ch g q := by unfold ch; rfl
  rw [if_neg (by simp)]
  by_cases h : q < g.length
  · rw [if_neg (by omega), show accepts CODE 38 (g.cps.getD q 0) seen = .ok (g.cps.getD q 0 != 91, seen) from rfl, e2]
    by_cases hc : ch g q = 91
    · rw [if_neg (by simp [hc]), show (ch g q != 91) = false by simp [hc]]; rfl
    · rw [if_pos ⟨h, hc⟩, show (ch g q != 91) = true by simpa using hc]; rfl
  · rw [if_pos (by omega), if_neg (by omega)]; rfl
theorem st_noG0 : (Sx g st pc pos hd mk lm li [fG 0 q] 1 (some false) seen none).step = Sx g st 9 q hd mk 2 (-1) [] 0 (some false) seen none := rfl
theorem st_noG : (Sx g st pc pos hd mk lm li [fG ((n + 1 : Nat) : Int) q] 1 (some false) seen none).step = Sx g st 16 (q - 1) (q - 1) mk 2 (-1) [fG (n : Nat) (q - 1)] 1 none seen none := by
  show (if ((n + 1 : Nat) : Int) - 1 < ((0 : Nat) : Int) then _ else _) = _
  rw [if_neg (by omega)]
  show Sx g st 16 (q - 1) (q - 1) mk 2 (-1) [fG (((n + 1 : Nat) : Int) - 1) (q - 1)] 1 none seen none = _
  rw [show ((n + 1 : Nat) : Int) - 1 = (n : Nat) by omega]
end
def Rch (b : Nat) (m m' : M) : Prop := ∃ n, n ≤ b ∧ M.runFor n m = m'
theorem Rch.refl {b : Nat} {m : M} : Rch b m m := ⟨0, Nat.zero_le _, rfl⟩
theorem go {b : Nat} {m m1 m' : M} (h : m.step = m1) (r : Rch b m1 m') (ho : m.outcome.isSome = false := by rfl) : Rch (b + 1) m m' := by
  obtain ⟨n, hn, e⟩ := r
  refine ⟨n + 1, by omega, ?_⟩
  show (if m.outcome.isSome = true then m else M.runFor n m.step) = m'
  rw [ho, h]
  exact e
theorem Rch.mono {b b' : Nat} {m m' : M} (r : Rch b m m') (h : b ≤ b') : Rch b' m m' := by
  obtain ⟨n, hn, e⟩ := r; exact ⟨n, by omega, e⟩
theorem runFor_stop {n : Nat} {m : M} (h : m.outcome.isSome = true) : M.runFor n m = m := by
  cases n with
  | zero => rfl
  | succ n => show (if m.outcome.isSome = true then m else _) = m; rw [if_pos h]
theorem runFor_add : ∀ (a b : Nat) (m : M), M.runFor (a + b) m = M.runFor b (M.runFor a m) := by
  intro a
  induction a with
  | zero => intro b m; rw [Nat.zero_add]; rfl
  | succ a ih =>
    intro b m
    by_cases h : m.outcome.isSome = true
    · rw [runFor_stop h, runFor_stop h, runFor_stop h]
    · rw [show a + 1 + b = (a + b) + 1 by omega]
      show (if m.outcome.isSome = true then m else M.runFor (a + b) m.step) = M.runFor b (if m.outcome.isSome = true then m else M.runFor a m.step)
      rw [if_neg h, if_neg h, ih]
theorem Rch.trans {a b : Nat} {m m' m'' : M} (r : Rch a m m') (r' : Rch b m' m'') : Rch (a + b) m m'' := by
  obtain ⟨n, hn, rfl⟩ := r
  obtain ⟨k, hk, rfl⟩ := r'
  exact ⟨n + k, by omega, runFor_add n k m⟩

/-- what the machine ends in -/
def Won (b : Nat) (g : Str) (st e : Nat) (mk : Array (Option Nat)) (m : M) : Prop := ∃ pc pos seen, Rch b m (Sx g st pc pos e mk 5 1 [] 0 (some true) seen (some .matched))
def Lost (b : Nat) (m : M) : Prop := ∃ m', m'.outcome = some .failed ∧ Rch b m m'
/-- back at the backslashes, empty-handed -/
def Back (b : Nat) (g : Str) (st : Nat) (f : Sre.Frame) (m : M) : Prop := ∃ pc pos hd mk lm li seen, Rch b m (Sx g st pc pos hd mk lm li [f] 1 (some false) seen none)
section
variable {g : Str} {st e : Nat} {f : Sre.Frame} {m m1 : M} {b a : Nat} {mk : Array (Option Nat)}
theorem Won.go (w : Won b g st e mk m1) (h : m.step = m1) (ho : m.outcome.isSome = false := by rfl) : Won (b + 1) g st e mk m := by
  obtain ⟨pc, pos, seen, r⟩ := w; exact ⟨pc, pos, seen, Mine.go h r ho⟩
theorem Back.go (w : Back b g st f m1) (h : m.step = m1) (ho : m.outcome.isSome = false := by rfl) : Back (b + 1) g st f m := by
  obtain ⟨pc, pos, hd, mk, lm, li, seen, r⟩ := w; exact ⟨pc, pos, hd, mk, lm, li, seen, Mine.go h r ho⟩
theorem Lost.go (w : Lost b m1) (h : m.step = m1) (ho : m.outcome.isSome = false := by rfl) : Lost (b + 1) m := by
  obtain ⟨m', h', r⟩ := w; exact ⟨m', h', Mine.go h r ho⟩
theorem Won.mono (w : Won b g st e mk m) (h : b ≤ a) : Won a g st e mk m := by
  obtain ⟨pc, pos, seen, r⟩ := w; exact ⟨pc, pos, seen, r.mono h⟩
theorem Back.mono (w : Back b g st f m) (h : b ≤ a) : Back a g st f m := by
  obtain ⟨pc, pos, hd, mk, lm, li, seen, r⟩ := w; exact ⟨pc, pos, hd, mk, lm, li, seen, r.mono h⟩
theorem Lost.mono (w : Lost b m) (h : b ≤ a) : Lost a m := by
  obtain ⟨m', h', r⟩ := w; exact ⟨m', h', r.mono h⟩
end
section
variable {g : Str} {st n qq : Nat}
/-- behind a bracket and a letter: to the closing bracket, or back -/
theorem run_content : ∀ (d q : Nat) (k : Int) (mk : Array (Option Nat)) (seen : Seen), g.length - q = d →
    (scan g q < g.length ∧ ch g (scan g q) = 93 → Won (3 * d + 8) g st (scan g q + 1) ((mk.setIfInBounds 5 (some (scan g q))).setIfInBounds 1 (some (scan g q + 1))) (Sx g st 41 q q mk 4 2 [fT k q, fG n qq] 2 none seen none)) ∧
    (¬ (scan g q < g.length ∧ ch g (scan g q) = 93) → Back (3 * d + 8) g st (fG n qq) (Sx g st 41 q q mk 4 2 [fT k q, fG n qq] 2 none seen none)) := by
  intro d
  induction d with
  | zero =>
    intro q k mk seen h
    rw [scan_end (by omega)]
    refine ⟨fun h => absurd h.1 (by omega), fun _ => ?_⟩
    refine Back.mono (Back.go (b := 7) ?_ st_mark5) (by omega)
    refine Back.mono (Back.go (b := 6) ?_ (st_rb_out (by omega))) (by omega)
    refine Back.mono (Back.go (b := 5) ?_ (st_noT.trans (if_neg (by omega)))) (by omega)
    exact ⟨_, _, _, _, _, _, _, .refl⟩
  | succ d ih =>
    intro q k mk seen h
    by_cases h93 : ch g q = 93
    · rw [scan_at (by omega) (.inr h93)]
      refine ⟨fun _ => ?_, fun h => absurd ⟨by omega, h93⟩ h⟩
      refine Won.mono (Won.go (b := 6) (Won.go (b := 5) (Won.go (b := 4) (Won.go (b := 3) (Won.go (b := 2) (Won.go (b := 1) (Won.go (b := 0) ?_ st_done) st_yesG) st_yesT) st_success) st_mark1) ((st_rb (by omega)).trans (if_pos h93))) st_mark5) (by omega)
      exact ⟨_, _, _, .refl⟩
    · by_cases h91 : ch g q = 91
      · rw [scan_at (by omega) (.inl h91)]
        refine ⟨fun h => absurd h.2 h93, fun _ => ?_⟩
        refine Back.mono (Back.go (b := 2) (Back.go (b := 1) (Back.go (b := 0) ?_ (st_noT.trans (if_neg (by omega)))) ((st_rb (by omega)).trans (if_neg h93))) st_mark5) (by omega)
        exact ⟨_, _, _, _, _, _, _, .refl⟩
      · rw [scan_lt (by omega) h91 h93]
        obtain ⟨i1, i2⟩ := ih (q + 1) (k + 1) (mk.setIfInBounds 5 (some q)) ((seen.add 17).add 16) (by omega)
        rw [Array.setIfInBounds_setIfInBounds] at i1
        refine ⟨fun h => ?_, fun h => ?_⟩
        · exact Won.mono (Won.go (Won.go (Won.go (i1 h) (st_noT.trans (if_pos ⟨by omega, h91⟩))) ((st_rb (by omega)).trans (if_neg h93))) st_mark5) (by omega)
        · exact Back.mono (Back.go (Back.go (Back.go (i2 h) (st_noT.trans (if_pos ⟨by omega, h91⟩))) ((st_rb (by omega)).trans (if_neg h93))) st_mark5) (by omega)
def mkAt (mk : Array (Option Nat)) (q e : Nat) : Array (Option Nat) := ((((mk.setIfInBounds 3 (some q)).setIfInBounds 4 (some (q + 1))).setIfInBounds 5 (some (e - 1))).setIfInBounds 1 (some e))
theorem run_tag {q : Nat} {mk : Array (Option Nat)} {seen : Seen} :
    (∀ e, tagEnd g q = some e → Won (3 * g.length + 16) g st e (mkAt mk q e) (Sx g st 16 q q mk 2 (-1) [fG n qq] 1 none seen none)) ∧
    (tagEnd g q = none → Back (3 * g.length + 16) g st (fG n qq) (Sx g st 16 q q mk 2 (-1) [fG n qq] 1 none seen none)) := by
  by_cases h1 : q < g.length
  · by_cases h91 : ch g q = 91
    · by_cases h2 : q + 1 < g.length
      · obtain ⟨seen', hs⟩ := st_head (g := g) (st := st) (hd := q) (wt := 1) (q := q + 1) (mk := (mk.setIfInBounds 3 (some q)).setIfInBounds 4 (some (q + 1))) (fr := [fG n qq]) (seen := ((seen.add 17).add 16).add 17) h2
        by_cases hh : isHead (ch g (q + 1)) = true
        · rw [if_pos hh] at hs
          obtain ⟨i1, i2⟩ := run_content (g := g) (st := st) (n := n) (qq := qq) (g.length - (q + 2)) (q + 2) 0 ((mk.setIfInBounds 3 (some q)).setIfInBounds 4 (some (q + 1))) ((seen'.add 26).add 20) rfl
          constructor
          · intro e he
            obtain ⟨e1, e2, _, e4, _, _, e7⟩ := tagEnd_gt he
            have i3 := i1 ⟨by omega, by rw [e7]; exact e4⟩
            rw [e7, show e - 1 + 1 = e by omega] at i3
            exact Won.mono (Won.go (Won.go (Won.go (Won.go (Won.go i3 (st_lazy (by omega))) hs) st_mark4) ((st_lb h1).trans (if_pos h91))) st_mark3) (by omega)
          · intro he
            have i3 := i2 (fun h => by
              unfold tagEnd at he
              rw [if_pos ⟨h2, h91, hh⟩, if_pos h] at he
              cases he)
            exact Back.mono (Back.go (Back.go (Back.go (Back.go (Back.go i3 (st_lazy (by omega))) hs) st_mark4) ((st_lb h1).trans (if_pos h91))) st_mark3) (by omega)
        · rw [if_neg hh] at hs
          refine ⟨fun e he => absurd (tagEnd_gt he).2.2.2.2.1 hh, fun _ => ?_⟩
          refine Back.mono (Back.go (b := 3) (Back.go (b := 2) (Back.go (b := 1) (Back.go (b := 0) ?_ hs) st_mark4) ((st_lb h1).trans (if_pos h91))) st_mark3) (by omega)
          exact ⟨_, _, _, _, _, _, _, .refl⟩
      · refine ⟨fun e he => absurd (tagEnd_gt he).2.2.2.2.2.1 h2, fun _ => ?_⟩
        refine Back.mono (Back.go (b := 3) (Back.go (b := 2) (Back.go (b := 1) (Back.go (b := 0) ?_ (st_head_out (by omega))) st_mark4) ((st_lb h1).trans (if_pos h91))) st_mark3) (by omega)
        exact ⟨_, _, _, _, _, _, _, .refl⟩
    · refine ⟨fun e he => absurd (tagEnd_gt he).2.2.1 h91, fun _ => ?_⟩
      refine Back.mono (Back.go (b := 1) (Back.go (b := 0) ?_ ((st_lb h1).trans (if_neg h91))) st_mark3) (by omega)
      exact ⟨_, _, _, _, _, _, _, .refl⟩
  · refine ⟨fun e he => absurd (tagEnd_gt he) (by omega), fun _ => ?_⟩
    refine Back.mono (Back.go (b := 1) (Back.go (b := 0) ?_ (st_lb_out (by omega))) st_mark3) (by omega)
    exact ⟨_, _, _, _, _, _, _, .refl⟩
end
end Mine
end
section
open PySem PySem.W PyProof.Rows in
theorem Mine.fresh_R3 : True := by
  k_with_none
  w_top off
  trivial
open PySem PySem.Sre PySem.W
namespace Mine
section
variable {g : Str} {st : Nat}
theorem run_back : ∀ (n q : Nat) (pc pos hd : Nat) (mk : Array (Option Nat)) (lm li : Int) (seen : Seen), n ≤ q → (∀ j, j < n → ch g (q - 1 - j) = 92) →
    Lost (3 * n + 3) (Sx g st pc pos hd mk lm li [fG (n : Nat) q] 1 (some false) seen none) := by
  intro n
  induction n with
  | zero =>
    intro q pc pos hd mk lm li seen _ _
    refine Lost.mono (Lost.go (b := 1) (Lost.go (b := 0) ?_ st_lost) st_noG0) (by omega)
    exact ⟨_, rfl, .refl⟩
  | succ n ih =>
    intro q pc pos hd mk lm li seen hq hb
    have h0 := hb 0 (by omega)
    rw [Nat.sub_zero] at h0
    have h1 : q - 1 < g.length := by
      by_cases h : q - 1 < g.length
      · exact h
      · rw [ch_out (by omega)] at h0; cases h0
    have i := ih (q - 1) 18 (q - 1) (q - 1) (mk.setIfInBounds 3 (some (q - 1))) 3 2 ((seen.add 17).add 16) (by omega) (fun j hj => by
      have := hb (j + 1) (by omega)
      rw [show q - 1 - (j + 1) = q - 1 - 1 - j by omega] at this
      exact this)
    exact Lost.mono (Lost.go (Lost.go (Lost.go i ((st_lb h1).trans (if_neg (by omega)))) st_mark3) st_noG) (by omega)
theorem bs_all {p j : Nat} (h1 : p ≤ j) (h2 : j < bs g p) : ch g j = 92 := by
  have e := bs_between (g := g) (p := p) (q := j) h1 (by omega)
  by_cases h : ch g j = 92
  · exact h
  · rw [bs_at h] at e; omega
theorem match_run (hg : g.length ≤ 1048576) {p : Nat} (hp : p ≤ g.length) :
    (∀ e, tagEnd g (bs g p) = some e → Won 7000000 g p e (mkAt #[some p, none, some p, none, none, none] (bs g p) e) (Sre.forMatch CODE g.cps 3 p g.length false false)) ∧
    (tagEnd g (bs g p) = none → Lost 7000000 (Sre.forMatch CODE g.cps 3 p g.length false false)) := by
  rw [forMatch_is]
  have hb := bs_ge g p
  have hbl := bs_le hp
  by_cases h3 : p ≤ g.length ∧ g.length - p < 3
  · rw [if_pos h3]
    refine ⟨fun e he => ?_, fun _ => ?_⟩
    · have := tagEnd_gt he; omega
    · refine Lost.mono (Lost.go (b := 0) ?_ st_lost) (by omega)
      exact ⟨_, rfl, .refl⟩
  · rw [if_neg h3]
    obtain ⟨i1, i2⟩ := run_tag (g := g) (st := p) (n := bs g p - p) (qq := bs g p) (q := bs g p) (mk := #[some p, none, some p, none, none, none]) (seen := ((((({} : Seen).add 14).add 17).add 17).add 24).add 16)
    refine ⟨fun e he => ?_, fun he => ?_⟩
    · exact Won.mono (Won.go (Won.go (Won.go (i1 e he) (st_many hg hp)) st_mark2) st_mark0) (by omega)
    · obtain ⟨pc, pos, hd, mk, lm, li, seen, r⟩ := i2 he
      obtain ⟨m', hm, r'⟩ := run_back (g := g) (st := p) (bs g p - p) (bs g p) pc pos hd mk lm li seen (by omega) (fun j hj => bs_all (p := p) (by omega) (by omega))
      have w : Lost (3 * g.length + 16 + (3 * (bs g p - p) + 3)) (Sx g p 16 (bs g p) (bs g p) #[some p, none, some p, none, none, none] 2 (-1) [fG (bs g p - p : Nat) (bs g p)] 1 none (((((({} : Seen).add 14).add 17).add 17).add 24).add 16) none) := ⟨m', hm, r.trans r'⟩
      exact Lost.mono (Lost.go (Lost.go (Lost.go w (st_many hg hp)) st_mark2) st_mark0) (by omega)
end
end Mine
end
section
open PySem PySem.W PyProof.Rows in
theorem Mine.fresh_R4a : True := by
  k_with_none
  w_top off
  trivial
open PySem PySem.W PyProof.Rows PySem.Builtin PySem.Builtin.Re
set_option maxRecDepth 100000
namespace Mine
theorem slot_rematch : Slot "re.Pattern" "match" "re.Pattern.match" :=
  .of (owner := "re.Pattern") (n := "match") (by rw [typeLookup_type, builtinLookup_eq_fast]; kernel_rfl) (by decide +kernel) (by decide +kernel) (by decide +kernel)
    (by first | exact .inl (by decide +kernel) | exact .inr (by decide +kernel)) (by rw [isSubtype_type]; kernel_rfl)
theorem type_rematch : typeOf (.builtin "re.Pattern.match") = pure (.type "method_descriptor") := by show builtinType _ = _; rw [builtinType_eq_fast]; kernel_rfl
theorem entry_rematch : entryFor table "re.Pattern.match" = some Builtin.«re.Pattern.match» := entryFor_of_fast (by kernel_rfl)
theorem args_rematch (a b c : Value) : argsOk "re.Pattern.match" ⟨[a, b, c], []⟩ := by unfold argsOk; kernel_rfl
theorem plainAttrs_rep : PlainAttrs "re.Pattern" :=
  ⟨⟨"object.__getattribute__", by rw [typeLookup_type, builtinLookup_eq_fast]; kernel_rfl, by decide +kernel⟩, by rw [typeLookup_type, builtinLookup_eq_fast]; kernel_rfl⟩
theorem plainAttrs_rem : PlainAttrs "re.Match" :=
  ⟨⟨"object.__getattribute__", by rw [typeLookup_type, builtinLookup_eq_fast]; kernel_rfl, by decide +kernel⟩, by rw [typeLookup_type, builtinLookup_eq_fast]; kernel_rfl⟩
theorem slot_groups : Slot "re.Match" "groups" "re.Match.groups" :=
  .of (owner := "re.Match") (n := "groups") (by rw [typeLookup_type, builtinLookup_eq_fast]; kernel_rfl) (by decide +kernel) (by decide +kernel) (by decide +kernel)
    (by first | exact .inl (by decide +kernel) | exact .inr (by decide +kernel)) (by rw [isSubtype_type]; kernel_rfl)
theorem type_groups : typeOf (.builtin "re.Match.groups") = pure (.type "method_descriptor") := by show builtinType _ = _; rw [builtinType_eq_fast]; kernel_rfl
theorem entry_groups : entryFor table "re.Match.groups" = some Builtin.«re.Match.groups» := entryFor_of_fast (by kernel_rfl)
theorem args_groups (a : Value) : argsOk "re.Match.groups" ⟨[a], []⟩ := by unfold argsOk; kernel_rfl
theorem slot_span : Slot "re.Match" "span" "re.Match.span" :=
  .of (owner := "re.Match") (n := "span") (by rw [typeLookup_type, builtinLookup_eq_fast]; kernel_rfl) (by decide +kernel) (by decide +kernel) (by decide +kernel)
    (by first | exact .inl (by decide +kernel) | exact .inr (by decide +kernel)) (by rw [isSubtype_type]; kernel_rfl)
theorem type_span : typeOf (.builtin "re.Match.span") = pure (.type "method_descriptor") := by show builtinType _ = _; rw [builtinType_eq_fast]; kernel_rfl
theorem entry_span : entryFor table "re.Match.span" = some Builtin.«re.Match.span» := entryFor_of_fast (by kernel_rfl)
theorem args_span (a : Value) : argsOk "re.Match.span" ⟨[a], []⟩ := by unfold argsOk; kernel_rfl
theorem slot_reend : Slot "re.Match" "end" "re.Match.end" :=
  .of (owner := "re.Match") (n := "end") (by rw [typeLookup_type, builtinLookup_eq_fast]; kernel_rfl) (by decide +kernel) (by decide +kernel) (by decide +kernel)
    (by first | exact .inl (by decide +kernel) | exact .inr (by decide +kernel)) (by rw [isSubtype_type]; kernel_rfl)
theorem type_reend : typeOf (.builtin "re.Match.end") = pure (.type "method_descriptor") := by show builtinType _ = _; rw [builtinType_eq_fast]; kernel_rfl
theorem entry_reend : entryFor table "re.Match.end" = some Builtin.«re.Match.end» := entryFor_of_fast (by kernel_rfl)
theorem args_reend (a : Value) : argsOk "re.Match.end" ⟨[a], []⟩ := by unfold argsOk; kernel_rfl

end Mine
end
section
open PySem PySem.W PyProof.Rows in
theorem Mine.fresh_R4 : True := by
  k_with_none
  w_top off
  trivial
open PySem PySem.W PyProof.Rows PySem.Builtin PySem.Builtin.Re
set_option maxRecDepth 100000
namespace Mine
section
variable {M : Model} {A : Around} {E : Value → Shared → Prop} {s : Shared}
/-- the driver: as many turns as it takes -/
theorem drive : ∀ (k turns : Nat) (m : Sre.M) {Q : Sre.M → Shared → Prop}, k < turns → (Sre.M.runFor (4 * k) m).outcome.isSome = true → Q (Sre.M.runFor (4 * k) m) s → wpAny M A (reDrive turns m) Q E s := by
  intro k
  induction k with
  | zero =>
    intro turns m Q hk ho hQ
    obtain ⟨t, rfl⟩ : ∃ t, turns = t + 1 := ⟨turns - 1, by omega⟩
    replace ho : m.outcome.isSome = true := ho
    have e : Sre.M.runFor reTurnSteps m = m := runFor_stop ho
    unfold reDrive
    rw [e]
    show wpAny M A (if m.outcome.isSome = true then pure m else _) Q E s
    rw [if_pos ho]
    exact wpAny_pure hQ
  | succ k ih =>
    intro turns m Q hk ho hQ
    obtain ⟨t, rfl⟩ : ∃ t, turns = t + 1 := ⟨turns - 1, by omega⟩
    have e : Sre.M.runFor (4 * (k + 1)) m = Sre.M.runFor (4 * k) (Sre.M.runFor 4 m) := by
      rw [show 4 * (k + 1) = 4 + 4 * k by omega, runFor_add]
    rw [e] at ho hQ
    unfold reDrive
    show wpAny M A (if (Sre.M.runFor 4 m).outcome.isSome = true then pure (Sre.M.runFor 4 m) else _) Q E s
    by_cases h : (Sre.M.runFor 4 m).outcome.isSome = true
    · rw [if_pos h]
      rw [runFor_stop h] at hQ
      exact wpAny_pure hQ
    · rw [if_neg h]
      exact wpAny_bind (wpAny_rule (ih t _ (by omega) ho hQ))
theorem rules_forIn {α : Type} (l : List α) (p : α → Bool) (t : α → String) {Q : PUnit → Shared → Prop} (h : Q ⟨⟩ s) :
    wpAny M A (forIn l PUnit.unit fun i _ => if p i = true then do rule (t i); pure (ForInStep.yield PUnit.unit) else pure (ForInStep.yield PUnit.unit)) Q E s := by
  induction l with
  | nil => exact wpAny_pure h
  | cons a l ih =>
    rw [List.forIn_cons]
    refine wpAny_bind ?_
    by_cases hp : p a = true
    · rw [if_pos hp]
      exact wpAny_bind (wpAny_rule (wpAny_pure ih))
    · rw [if_neg hp]
      exact wpAny_pure ih
theorem runToEnd {m m' : Sre.M} {b : Nat} (hr : Rch b m m') (hb : b ≤ 10000000) (ho : m'.outcome.isSome = true) {Q : Option Sre.M → Shared → Prop}
    (hQ : match m'.outcome with | some .matched => Q (some m') s | some .failed => Q none s | _ => False) : wpAny M A (reRunToEnd m) Q E s := by
  obtain ⟨n, hn, rfl⟩ := hr
  have e : Sre.M.runFor (4 * n) m = Sre.M.runFor n m := by
    rw [show 4 * n = n + 3 * n by omega, runFor_add, runFor_stop ho]
  unfold reRunToEnd
  refine wpAny_bind (drive n (2 ^ 64) m ?_ (by rw [e]; exact ho) ?_)
  · exact Nat.lt_of_le_of_lt (Nat.le_trans hn hb) (by decide)
  rw [e]
  refine wpAny_bind (rules_forIn _ (fun i => (Sre.M.runFor n m).seen.has i) (fun i => Sre.names.getD i "") ?_)
  generalize Sre.M.runFor n m = m' at *
  cases h : m'.outcome with
  | none => rw [h] at ho; cases ho
  | some o =>
    rw [h] at hQ
    cases o with
    | matched => exact wpAny_pure hQ
    | failed => exact wpAny_pure hQ
    | stuck why => exact hQ.elim
end
end Mine
end
section
open PySem PySem.W PyProof.Rows in
theorem Mine.fresh_R5 : True := by
  k_with_none
  w_top off
  trivial
open PySem PySem.W PyProof.Rows PySem.Builtin PySem.Builtin.Re
set_option maxRecDepth 100000
namespace Mine
def patO (v0 v1 v3 v4 : Value) (t2 t6 : Tok) (c : Addr) : Obj := { cls := .type "re.Pattern", data := .fields #[v0, v1, .int 3 t2, v3, v4, .ref c, .int 0 t6] }
def spanO (p b e : Nat) : Obj := { cls := .type "tuple", data := .seq #[.int (p : Nat) 0, .int (e : Nat) 0, .int (p : Nat) 0, .int (e : Nat) 0, .int (p : Nat) 0, .int (b : Nat) 0, .int ((b + 1 : Nat) : Int) 0, .int ((e - 1 : Nat) : Int) 0] }
def matchO (g : Str) (t : Tok) (a : Addr) (p : Nat) (tup : Addr) : Obj := { cls := .type "re.Match", data := .fields #[.str g t, .ref a, .int (p : Nat) 0, .int (g.length : Nat) 0, .int 1 0, .ref tup] }
theorem wpAny_bif {α : Type} {M : Model} {A : Around} {E : Value → Shared → Prop} {s : Shared} {b : Bool} {x y : Sem α} {Q : α → Shared → Prop} (hb : b = false) (h : wpAny M A y Q E s) : wpAny M A (if b = true then x else y) Q E s := by
  subst hb; exact h
theorem ssize_of {i : Int} {t : Tok} (h0 : 0 ≤ i) (h1 : i < 2 ^ 63) : reSsize (.int i t) = pure i := by
  show (if (decide (i < -(2 ^ 63)) || decide (i ≥ 2 ^ 63)) = true then _ else _) = _
  rw [if_neg (by simp; omega)]
section
variable {prog : Program} {w : World} {A : Around} {E : Value → Shared → Prop} {s : Shared}
theorem call_match {a c : Addr} {g : Str} {t t' t2 t6 : Tok} {p : Nat} {v0 v1 v3 v4 : Value} {oc : Obj} {items : Array Value} {n : Nat} {Q : Value → Shared → Prop}
    (hp : s.heap.get? a = some (patO v0 v1 v3 v4 t2 t6 c)) (hc : s.heap.get? c = some oc) (hcd : oc.data = .seq items n) (hit : (items.map reRawOf).map (·.toNat) = CODE) (hg : g.length ≤ 1048576) (hpg : p ≤ g.length)
    (hnone : tagEnd g (bs g p) = none → Q .none s)
    (hsome : ∀ e, tagEnd g (bs g p) = some e → Q (.ref (s.heap.objs.size + 1)) { s with heap := (s.heap.push (spanO p (bs g p) e)).push (matchO g t a p s.heap.objs.size) }) :
    wpAny (model prog w) A (call (.builtin "re.Pattern.match") [.ref a, .str g t, .int (p : Nat) t']) Q E s := by
  refine wpAny_call_entry slot_rematch (T := "re.Pattern") ⟨_, hp, rfl⟩ entry_rematch ?_ (args_rematch _ _ _)
  unfold Builtin.«re.Pattern.match» reTarget
  refine wpAny_bind (wpAny_bind ?_)
  refine wpAny_of_eq (show reNamed "re.Pattern.match" "match" ["string", "pos", "endpos"] 1 [.str g t, .int (p : Nat) t'] [] = pure [some (.str g t), some (.int (p : Nat) t'), none] from rfl) ?_
  dsimp only
  refine wpAny_bind (wpAny_of_eq (ssize_of (by omega) (by omega)) ?_)
  refine wpAny_bind (wpAny_pure ?_)
  refine wpAny_bind (wpAny_fieldsOf hp rfl ?_)
  refine wpAny_bind (wpAny_of_eq (show reTextOf (.str g t) = pure (g.cps, 0) from rfl) ?_)
  show wpAny _ _ (reNoCollectionInside (.str g t) 0 >>= _) _ _ _
  refine wpAny_bind (wpAny_of_eq (show reNoCollectionInside (.str g t) 0 = pure () from rfl) ?_)
  refine wpAny_bind (wpAny_bind (wpAny_seqItems hc hcd (wpAny_pure ?_)))
  refine wpAny_pure ?_
  show wpAny _ _ (reAnswer { pattern := .ref a, string := .str g t, code := (items.map reRawOf).map (·.toNat), text := g.cps, kind := 0, groups := 3, pos := min ((p : Int).toNat) g.cps.size, lim := min ((2 ^ 63 - 1 : Int).toNat) g.cps.size }
    (Sre.forMatch ((items.map reRawOf).map (·.toNat)) g.cps 3 (min ((p : Int).toNat) g.cps.size) (min ((2 ^ 63 - 1 : Int).toNat) g.cps.size) false false)) _ _ _
  have e1 : min ((p : Int).toNat) g.cps.size = p := by rw [Int.toNat_natCast]; exact Nat.min_eq_left hpg
  have e2 : min ((2 ^ 63 - 1 : Int).toNat) g.cps.size = g.length := by
    have : g.cps.size = g.length := rfl
    rw [this]; exact Nat.min_eq_right (by omega)
  rw [hit, e1, e2]
  unfold reAnswer
  obtain ⟨m1, m2⟩ := match_run hg hpg
  cases he : tagEnd g (bs g p) with
  | none =>
    obtain ⟨m', hm, hr⟩ := m2 he
    refine wpAny_bind (runToEnd hr (by omega) (by rw [hm]; rfl) ?_)
    rw [hm]
    exact wpAny_pure ⟨_, rfl, hnone he⟩
  | some e =>
    obtain ⟨pc, pos, seen, hr⟩ := m1 e he
    refine wpAny_bind (runToEnd hr (by omega) rfl ?_)
    show wpAny _ _ (reNewMatch (.ref a) (.str g t) 3 p g.length (Sx g p pc pos e (mkAt #[some p, none, some p, none, none, none] (bs g p) e) 5 1 [] 0 (some true) seen (some .matched)) >>= _) _ _ _
    refine wpAny_bind ?_
    unfold reNewMatch
    obtain ⟨q1, q2, _⟩ := tagEnd_gt he
    have q3 := bs_ge g p
    have hmk : mkAt #[some p, none, some p, none, none, none] (bs g p) e = #[some p, some e, some p, some (bs g p), some (bs g p + 1), some (e - 1)] := rfl
    rw [hmk]
    refine wpAny_bif ?_ ?_
    · simp only [List.range, List.range.loop, List.any_cons, List.any_nil]
      simp [Sx]
      omega
    · show wpAny _ _ (newTuple [.int (p : Nat) 0, .int (e : Nat) 0, .int (p : Nat) 0, .int (e : Nat) 0, .int (p : Nat) 0, .int (bs g p : Nat) 0, .int ((bs g p + 1 : Nat) : Int) 0, .int ((e - 1 : Nat) : Int) 0] >>= fun v => newFields "re.Match" [.str g t, .ref a, .int (p : Nat) 0, .int (g.length : Nat) 0, .int 1 0, v]) _ _ _
      refine wpAny_bind (wpAny_newObj_type ?_ (by size_fits))
      refine wpAny_newObj_type ?_ (by size_fits)
      refine wpAny_pure ⟨_, rfl, ?_⟩
      have h := hsome e he
      rw [← Heap.size_push s.heap (spanO p (bs g p) e)] at h
      exact h
end
end Mine
end
section
open PySem PySem.W PyProof.Rows in
theorem Mine.fresh_R6 : True := by
  k_with_none
  w_top off
  trivial
open PySem PySem.W PyProof.Rows PySem.Builtin PySem.Builtin.Re
set_option maxRecDepth 100000
namespace Mine
theorem extract_sl (g : Str) (a b : Nat) : (⟨g.cps.extract a b⟩ : Str) = sl g a b := by
  refine PySem.Str.ext' (Array.ext' ?_)
  rw [sl_toList, Array.toList_extract]
section
variable {prog : Program} {w : World} {A : Around} {E : Value → Shared → Prop} {s : Shared}
theorem mapM3 {α β : Type} {M : Model} {x y z : α} {f : α → Sem β} {Q : List β → Shared → Prop} (h : wpAny M A (f x) (fun a s1 => wpAny M A (f y) (fun b s2 => wpAny M A (f z) (fun c s3 => Q [a, b, c] s3) E s2) E s1) E s) : wpAny M A ([x, y, z].mapM f) Q E s := by
  unfold List.mapM
  unfold List.mapM.loop
  refine wpAny_bind (wpAny_mono h (fun a s1 h => ?_) fun _ _ e => e)
  unfold List.mapM.loop
  refine wpAny_bind (wpAny_mono h (fun b s2 h => ?_) fun _ _ e => e)
  unfold List.mapM.loop
  refine wpAny_bind (wpAny_mono h (fun c s3 h => ?_) fun _ _ e => e)
  exact wpAny_pure h
theorem found_is {M : Model} {a pa tup : Addr} {g : Str} {t : Tok} {p b e : Nat} {Q : ReFound → Shared → Prop} (hm : s.heap.get? a = some (matchO g t pa p tup)) (ht : s.heap.get? tup = some (spanO p b e))
    (h : Q { fields := #[.str g t, .ref pa, .int (p : Nat) 0, .int (g.length : Nat) 0, .int 1 0, .ref tup], spans := #[(p : Nat), (e : Nat), (p : Nat), (e : Nat), (p : Nat), (b : Nat), ((b + 1 : Nat) : Int), ((e - 1 : Nat) : Int)] } s) : wpAny M A (reFound (.ref a)) Q E s := by
  unfold reFound
  refine wpAny_bind (wpAny_fieldsOf hm rfl ?_)
  refine wpAny_bind (wpAny_bind (wpAny_seqItems ht rfl (wpAny_pure ?_)))
  have e : Array.map reRawOf ((some #[Value.int (↑p) 0, Value.int (↑e) 0, Value.int (↑p) 0, Value.int (↑e) 0, Value.int (↑p) 0, Value.int (↑b) 0, Value.int (↑(b + 1)) 0, Value.int (↑(e - 1)) 0]).getD #[]) = (#[(p : Int), (e : Int), (p : Int), (e : Int), (p : Int), (b : Int), ((b + 1 : Nat) : Int), ((e - 1 : Nat) : Int)] : Array Int) := by
    simp [reRawOf]
  rw [e]
  exact wpAny_pure h
theorem call_reend {a pa tup : Addr} {g : Str} {t : Tok} {p b e : Nat} {Q : Value → Shared → Prop} (hm : s.heap.get? a = some (matchO g t pa p tup)) (ht : s.heap.get? tup = some (spanO p b e))
    (h : Q (.int (e : Nat) s.toks) { s with toks := s.toks + 1 }) : wpAny (model prog w) A (call (.builtin "re.Match.end") [.ref a]) Q E s := by
  refine wpAny_call_entry slot_reend (T := "re.Match") ⟨_, hm, rfl⟩ entry_reend ?_ (args_reend _)
  unfold Builtin.«re.Match.end» reOneGroup
  refine wpAny_bind (wpAny_bind ?_)
  refine wpAny_of_eq (show selfAndSome "Match.end" "end" 0 1 ⟨[.ref a], []⟩ = pure (.ref a, []) from rfl) ?_
  refine wpAny_bind (found_is hm ht ?_)
  refine wpAny_bind (wpAny_pure (wpAny_pure ?_))
  show wpAny _ _ (retInt (e : Nat)) _ _ _
  exact wpAny_bind (wpAny_mkInt (wpAny_pure ⟨_, rfl, h⟩))
theorem call_span {a pa tup : Addr} {g : Str} {t : Tok} {p b e : Nat} {Q : Value → Shared → Prop} (hm : s.heap.get? a = some (matchO g t pa p tup)) (ht : s.heap.get? tup = some (spanO p b e))
    (h : Q (.ref s.heap.objs.size) { s with toks := s.toks + 1 + 1, heap := s.heap.push { cls := .type "tuple", data := .seq #[.int (p : Nat) s.toks, .int (e : Nat) (s.toks + 1)] } }) : wpAny (model prog w) A (call (.builtin "re.Match.span") [.ref a]) Q E s := by
  refine wpAny_call_entry slot_span (T := "re.Match") ⟨_, hm, rfl⟩ entry_span ?_ (args_span _)
  unfold Builtin.«re.Match.span» reOneGroup
  refine wpAny_bind (wpAny_bind ?_)
  refine wpAny_of_eq (show selfAndSome "Match.span" "span" 0 1 ⟨[.ref a], []⟩ = pure (.ref a, []) from rfl) ?_
  refine wpAny_bind (found_is hm ht ?_)
  refine wpAny_bind (wpAny_pure (wpAny_pure ?_))
  show wpAny _ _ (mkInt (p : Nat) >>= _) _ _ _
  refine wpAny_bind (wpAny_mkInt ?_)
  show wpAny _ _ (mkInt (e : Nat) >>= _) _ _ _
  refine wpAny_bind (wpAny_mkInt ?_)
  refine wpAny_bind (wpAny_newObj_type ?_ (by size_fits))
  exact wpAny_pure ⟨_, rfl, h⟩
theorem group_text {M : Model} {g : Str} {t : Tok} {flds : Array Value} {sp : Array Int} {k lo hi : Nat} {d : Value} {Q : Value → Shared → Prop} (hf : flds.getD 0 .none = .str g t) (h1 : sp.getD (2 * k) (-1) = (lo : Nat)) (h2 : sp.getD (2 * k + 1) (-1) = (hi : Nat)) (hg : g.length ≤ 1048576) (hhi : hi ≤ g.length)
    (h : Q (.str (sl g lo hi) s.toks) { s with toks := s.toks + 1 }) : wpAny M A (reGroupText ⟨flds, sp⟩ k d) Q E s := by
  unfold reGroupText
  dsimp only
  rw [h1, h2, hf]
  refine wpAny_bif (by simp) ?_
  show wpAny M A (reTextOf (.str g t) >>= _) Q E s
  refine wpAny_bind (wpAny_of_eq (show reTextOf (.str g t) = pure (g.cps, 0) from rfl) ?_)
  show wpAny M A (mkStr ⟨g.cps.extract lo hi⟩) Q E s
  rw [extract_sl]
  have hl := sl_length (g := g) (a := lo) (b := hi) hhi
  unfold mkStr
  refine wpAny_ite ?_
  rw [if_neg (by rw [hl, PySem.sizeLine_eq]; omega)]
  exact wpAny_bind (wpAny_fresh (wpAny_pure h))
theorem call_groups {a pa tup : Addr} {g : Str} {t : Tok} {p b e : Nat} {Q : Value → Shared → Prop} (hm : s.heap.get? a = some (matchO g t pa p tup)) (ht : s.heap.get? tup = some (spanO p b e)) (hg : g.length ≤ 1048576) (hb : b ≤ e) (he : e ≤ g.length)
    (h : Q (.ref s.heap.objs.size) { s with toks := s.toks + 1 + 1 + 1, heap := s.heap.push { cls := .type "tuple", data := .seq #[.str (sl g p e) s.toks, .str (sl g p b) (s.toks + 1), .str (sl g (b + 1) (e - 1)) (s.toks + 1 + 1)] } }) : wpAny (model prog w) A (call (.builtin "re.Match.groups") [.ref a]) Q E s := by
  refine wpAny_call_entry slot_groups (T := "re.Match") ⟨_, hm, rfl⟩ entry_groups ?_ (args_groups _)
  unfold Builtin.«re.Match.groups» reWithDefault
  refine wpAny_bind (wpAny_bind ?_)
  refine wpAny_of_eq (show reNamed "re.Match.groups" "groups" ["default"] 0 [] [] = pure [none] from rfl) ?_
  refine wpAny_bind (found_is hm ht ?_)
  refine wpAny_pure ?_
  dsimp only
  simp only [List.size_toArray, List.length_cons, List.length_nil, Nat.reduceAdd, Nat.reduceDiv, Nat.reduceSub]
  rw [show List.range 3 = [0, 1, 2] from rfl]
  refine wpAny_bind (mapM3 ?_)
  refine group_text (k := 1) (lo := p) (hi := e) rfl rfl rfl hg he ?_
  refine group_text (k := 2) (lo := p) (hi := b) rfl rfl rfl hg (by omega) ?_
  refine group_text (k := 3) (lo := b + 1) (hi := e - 1) rfl rfl rfl hg (by omega) ?_
  refine wpAny_bind (wpAny_newObj_type ?_ (by size_fits))
  exact wpAny_pure ⟨_, rfl, h⟩
end
end Mine
end
section
open PySem PySem.W PyProof.Rows in
theorem Mine.fresh_R7 : True := by
  k_with_none
  w_top off
  trivial
open PySem PySem.W PyProof.Rows PySem.Builtin PySem.Builtin.Re
set_option maxRecDepth 100000
namespace Mine
section
variable {prog : Program} {w : World} {A : Around} {E : Value → Shared → Prop} {s : Shared} {h₀ : Heap} {L : Addr} {m : Str → Option Value} {news : List (Addr × Obj)}
theorem gm_match {a c : Addr} {v0 v1 v3 v4 : Value} {t2 t6 : Tok} {pl : Sem Bool} {Q : Value × List Value → Shared → Prop} (F : Fr h₀ L s.heap m) (hp : h₀.get? a = some (patO v0 v1 v3 v4 t2 t6 c))
    (h : Q (.builtin "re.Pattern.match", [.ref a]) s) : wpAny (model prog w) A (getMethod (.ref a) (Str.ofString "match") pl) Q E s :=
  getMethod_builtin ⟨_, F.keep _ _ hp, rfl⟩ plainAttrs_rep slot_rematch type_rematch (fun b e => by cases e; exact ⟨_, F.keep _ _ hp, rfl⟩) h
theorem gm_groups {a pa tup : Addr} {g : Str} {t : Tok} {p : Nat} {pl : Sem Bool} {Q : Value × List Value → Shared → Prop} (N : News h₀ L s.heap news) (hm : (a, matchO g t pa p tup) ∈ news)
    (h : Q (.builtin "re.Match.groups", [.ref a]) s) : wpAny (model prog w) A (getMethod (.ref a) (Str.ofString "groups") pl) Q E s :=
  getMethod_builtin ⟨_, N.get hm, rfl⟩ plainAttrs_rem slot_groups type_groups (fun b e => by cases e; exact ⟨_, N.get hm, rfl⟩) h
theorem gm_span {a pa tup : Addr} {g : Str} {t : Tok} {p : Nat} {pl : Sem Bool} {Q : Value × List Value → Shared → Prop} (N : News h₀ L s.heap news) (hm : (a, matchO g t pa p tup) ∈ news)
    (h : Q (.builtin "re.Match.span", [.ref a]) s) : wpAny (model prog w) A (getMethod (.ref a) (Str.ofString "span") pl) Q E s :=
  getMethod_builtin ⟨_, N.get hm, rfl⟩ plainAttrs_rem slot_span type_span (fun b e => by cases e; exact ⟨_, N.get hm, rfl⟩) h
theorem gm_end {a pa tup : Addr} {g : Str} {t : Tok} {p : Nat} {pl : Sem Bool} {Q : Value × List Value → Shared → Prop} (N : News h₀ L s.heap news) (hm : (a, matchO g t pa p tup) ∈ news)
    (h : Q (.builtin "re.Match.end", [.ref a]) s) : wpAny (model prog w) A (getMethod (.ref a) (Str.ofString "end") pl) Q E s :=
  getMethod_builtin ⟨_, N.get hm, rfl⟩ plainAttrs_rem slot_reend type_reend (fun b e => by cases e; exact ⟨_, N.get hm, rfl⟩) h
theorem k_match {a c : Addr} {g : Str} {t t' t2 t6 : Tok} {p : Nat} {v0 v1 v3 v4 : Value} {oc : Obj} {items : Array Value} {n : Nat} {Q : Value → Shared → Prop} (F : Fr h₀ L s.heap m) (N : News h₀ L s.heap news)
    (hp : h₀.get? a = some (patO v0 v1 v3 v4 t2 t6 c)) (hc : h₀.get? c = some oc) (hcd : oc.data = .seq items n) (hit : (items.map reRawOf).map (·.toNat) = CODE) (hg : g.length ≤ 1048576) (hpg : p ≤ g.length)
    (hnone : tagEnd g (bs g p) = none → Q .none s)
    (hsome : ∀ e h' x tup, tagEnd g (bs g p) = some e → Fr h₀ L h' m → News h₀ L h' ((x, matchO g t a p tup) :: (tup, spanO p (bs g p) e) :: news) → s.heap.objs.size ≤ x → s.heap.objs.size ≤ tup → Q (.ref x) { s with heap := h' }) :
    wpAny (model prog w) A (call (.builtin "re.Pattern.match") [.ref a, .str g t, .int (p : Nat) t']) Q E s :=
  call_match (F.keep _ _ hp) (F.keep _ _ hc) hcd hit hg hpg hnone fun e he =>
    hsome e _ _ _ he ((F.push _).push _) (by have := News.push (F.push (spanO p (bs g p) e)) (News.push F N (spanO p (bs g p) e)) (matchO g t a p s.heap.objs.size); rw [Heap.size_push] at this; exact this) (Nat.le_succ _) (Nat.le_refl _)
theorem k_end {a pa tup : Addr} {g : Str} {t : Tok} {p b e : Nat} {Q : Value → Shared → Prop} (N : News h₀ L s.heap news) (hm : (a, matchO g t pa p tup) ∈ news) (ht : (tup, spanO p b e) ∈ news)
    (h : Q (.int (e : Nat) s.toks) { s with toks := s.toks + 1 }) : wpAny (model prog w) A (call (.builtin "re.Match.end") [.ref a]) Q E s := call_reend (N.get hm) (N.get ht) h
end
end Mine
end
section
open PySem PySem.W PyProof.Rows in
theorem Mine.fresh_R8 : True := by
  k_with_none
  w_top off
  trivial
open PySem PySem.W PyProof.Rows PySem.Builtin PySem.Builtin.Re
set_option maxRecDepth 100000
namespace Mine
section
variable {prog : Program} {w : World} {A : Around} {E : Value → Shared → Prop} {s : Shared} {h₀ : Heap} {L : Addr} {m : Str → Option Value} {news : List (Addr × Obj)}
theorem k_groups {a pa tup : Addr} {g : Str} {t : Tok} {p b e : Nat} {Q : Value → Shared → Prop} (F : Fr h₀ L s.heap m) (N : News h₀ L s.heap news) (hm : (a, matchO g t pa p tup) ∈ news) (ht : (tup, spanO p b e) ∈ news) (hg : g.length ≤ 1048576) (hb : b ≤ e) (he : e ≤ g.length)
    (h : ∀ q h' tk t1 t2 t3, Fr h₀ L h' m → News h₀ L h' ((q, { cls := .type "tuple", data := .seq #[.str (sl g p e) t1, .str (sl g p b) t2, .str (sl g (b + 1) (e - 1)) t3] }) :: news) → Q (.ref q) { s with heap := h', toks := tk }) :
    wpAny (model prog w) A (call (.builtin "re.Match.groups") [.ref a]) Q E s :=
  call_groups (N.get hm) (N.get ht) hg hb he (h _ _ _ _ _ _ (F.push _) (News.push F N _))
theorem k_span {a pa tup : Addr} {g : Str} {t : Tok} {p b e : Nat} {Q : Value → Shared → Prop} (F : Fr h₀ L s.heap m) (N : News h₀ L s.heap news) (hm : (a, matchO g t pa p tup) ∈ news) (ht : (tup, spanO p b e) ∈ news)
    (h : ∀ q h' tk t1 t2, Fr h₀ L h' m → News h₀ L h' ((q, { cls := .type "tuple", data := .seq #[.int (p : Nat) t1, .int (e : Nat) t2] }) :: news) → Q (.ref q) { s with heap := h', toks := tk }) :
    wpAny (model prog w) A (call (.builtin "re.Match.span") [.ref a]) Q E s :=
  call_span (N.get hm) (N.get ht) (h _ _ _ _ _ (F.push _) (News.push F N _))
end
end Mine
end
section
open PySem PySem.W PyProof.Rows in
theorem Mine.fresh_G0 : True := by
  k_with_none
  w_top off
  trivial
open PySem PySem.W PyProof.Rows PySem.Calls
namespace Mine
/-! ## generators: the statements with a yield inside -/
section
variable {M : Model} {A : Around} {R : GenEnd} {Y : Protocol} {n : Nat} {s₀ : Shared} {c : Code} {fs : List Frame} {s : Shared} {env : Env}
  {K : Flow → Sem Fin} {H : Value → Sem Fin} {gd : Bool → Bool} {lv : List Value → List Value}
theorem g_If {test : Expr} {body orelse : List Stmt} {pos : Pos}
    (h : wpAny M (A.over c fs) (isTrue test env (eval test env)) (fun b s' =>
        if b = true then Seg M A R Y n s₀ c ((execs body env).wrap K H gd lv) fs s' else Seg M A R Y n s₀ c ((execs orelse env).wrap K H gd lv) fs s')
      (fun x s' => Seg M A R Y n s₀ c (H x) fs s') s) :
    Seg M A R Y n s₀ c ((exec (.If test body orelse pos) env).wrap K H gd lv) fs s := by
  rw [exec_If]
  show Seg M A R Y n s₀ c (.at pos fun _ => (isTrue test env (eval test env) >>= fun b => if b = true then execs body env else execs orelse env).wrap K H gd lv) fs s
  refine seg_at ?_
  rw [Sem.bind_eq_wrap', Sem.wrap_wrap]
  refine seg_wrap (wpAny_mono h (fun b s' hb => ?_) fun _ _ e => e)
  cases b with
  | true => rw [if_pos rfl] at hb; exact hb
  | false => rw [if_neg Bool.false_ne_true] at hb; exact hb
theorem g_loop (J : Nat → Nat → Shared → Shared → Prop)
    (step : ∀ k n s₀ s, (∀ k' n' s₀' s', k' < k → J k' n' s₀' s' → Seg M A R Y n' s₀' c (M.den c) fs s') → J k n s₀ s → Seg M A R Y n s₀ c (M.den c) fs s) :
    ∀ k n s₀ s, J k n s₀ s → Seg M A R Y n s₀ c (M.den c) fs s := by
  intro k
  induction k using Nat.strongRecOn with
  | _ k ih => intro n s₀ s hJ; exact step k n s₀ s (fun k' n' s₀' s' hk hJ' => ih k' hk n' s₀' s' hJ') hJ
theorem g_simple {st : Stmt}
    (h : wpAny M (A.over c fs) (exec st env) (fun f s' => Seg M A R Y n s₀ c (K f) fs s') (fun x s' => Seg M A R Y n s₀ c (H x) fs s') s) :
    Seg M A R Y n s₀ c ((exec st env).wrap K H gd lv) fs s := seg_wrap h
end
end Mine
end
section
open PySem PySem.W PyProof.Rows in
theorem Mine.fresh_G1 : True := by
  k_with_none
  w_top off
  trivial
open PySem PySem.W PyProof.Rows PySem.Calls
namespace Mine
theorem notin2 {b x y : Nat} (h1 : b ≠ x) (h2 : b ≠ y) : b ∉ [x, y] := by
  intro h
  rcases List.mem_cons.mp h with h | h
  · exact h1 h
  · rcases List.mem_cons.mp h with h | h
    · exact h2 h
    · cases h
theorem wpAny_A {α : Type} {M : Model} {A : Around} (A' : Around) {E : Value → Shared → Prop} {s : Shared} {x : Sem α} {Q : α → Shared → Prop} (e : A = A') (h : wpAny M A' x Q E s) : wpAny M A x Q E s := e ▸ h
theorem wpAny_t {α : Type} {M : Model} {A : Around} {E : Value → Shared → Prop} {s : Shared} {x : Sem α} (x' : Sem α) {Q : α → Shared → Prop} (e : x = x') (h : wpAny M A x' Q E s) : wpAny M A x Q E s := e ▸ h
/-- every object but the frame, as a ledger -/
theorem ledger_of {h₀ h : Heap} {L : Addr} : ∃ tl, News h₀ L h tl ∧ ∀ b o, b ≠ L → h₀.get? b = none → h.get? b = some o → (b, o) ∈ tl := by
  refine ⟨(List.range h.objs.size).filterMap (fun b => if b = L then none else if (h₀.get? b).isSome then none else (h.get? b).map (fun o => (b, o))), ?_, ?_⟩
  · intro p hp
    obtain ⟨b, _, hb⟩ := List.mem_filterMap.mp hp
    by_cases e1 : b = L
    · rw [if_pos e1] at hb; cases hb
    · rw [if_neg e1] at hb
      by_cases e2 : (h₀.get? b).isSome = true
      · rw [if_pos e2] at hb; cases hb
      · rw [if_neg e2] at hb
        cases e3 : h.get? b with
        | none => rw [e3] at hb; cases hb
        | some o =>
          rw [e3] at hb; cases hb
          refine ⟨e3, e1, ?_⟩
          cases q : h₀.get? b with
          | none => rfl
          | some x => rw [q] at e2; exact absurd rfl e2
  · intro b o h1 h2 h3
    refine List.mem_filterMap.mpr ⟨b, List.mem_range.mpr (Heap.lt_size h3), ?_⟩
    rw [if_neg h1, h2, h3]
    rfl
/-- all but one address stands -/
def KeepBut (X : List Addr) (h h' : Heap) : Prop := ∀ b o, b ∉ X → h.get? b = some o → h'.get? b = some o
theorem keep_of {h₀ h h' : Heap} {L : Addr} {m m' : Str → Option Value} {tl tl' : List (Addr × Obj)} (F : Fr h₀ L h m) (ht : ∀ b o, b ≠ L → h₀.get? b = none → h.get? b = some o → (b, o) ∈ tl)
    (F' : Fr h₀ L h' m') (N' : News h₀ L h' tl') (hs : ∀ p ∈ tl, p ∈ tl') : KeepBut [L] h h' := by
  intro b o hb e
  cases q : h₀.get? b with
  | none => exact (N' _ (hs _ (ht b o (fun x => hb (by rw [x]; exact List.mem_cons_self)) q e))).1
  | some o' =>
    have h1 := F.keep b o' q
    rw [e] at h1
    cases h1
    exact F'.keep b o q
theorem ledger_keep {h₀ h : Heap} {L : Addr} {m : Str → Option Value} (F : Fr h₀ L h m) : ∃ tl, News h₀ L h tl ∧ (∀ h' m' tl', Fr h₀ L h' m' → News h₀ L h' tl' → (∀ p ∈ tl, p ∈ tl') → KeepBut [L] h h') ∧ ∀ b o, b ≠ L → h₀.get? b = none → h.get? b = some o → (b, o) ∈ tl := by
  obtain ⟨tl, N, ht⟩ := ledger_of (h₀ := h₀) (h := h) (L := L)
  exact ⟨tl, N, fun h' m' tl' F' N' hs => keep_of F ht F' N' hs, ht⟩
theorem fr_keep {h₀ h h' : Heap} {L Lo D : Addr} {m : Str → Option Value} (F : Fr h₀ L h m) (hk : KeepBut [Lo, D] h h') (h1 : L ≠ Lo) (h2 : L ≠ D) (h3 : h₀.objs.size ≤ Lo) (h4 : h₀.objs.size ≤ D) : Fr h₀ L h' m := by
  refine ⟨?_, fun b o e => ?_, F.above⟩
  · obtain ⟨o, es, ep, ho, r⟩ := F.ns
    exact ⟨o, es, ep, hk _ _ (notin2 h1 h2) ho, r⟩
  · have h := Heap.lt_size e
    exact hk _ _ (notin2 (Nat.ne_of_lt (Nat.lt_of_lt_of_le h h3)) (Nat.ne_of_lt (Nat.lt_of_lt_of_le h h4))) (F.keep _ _ e)
def Both (Lo D : Addr) (h : Heap) : Prop := (∃ o, h.get? Lo = some o) ∧ ∃ o, h.get? D = some o
theorem Both.keep {Lo D Lf : Addr} {h h' : Heap} (x : Both Lo D h) (k : KeepBut [Lf] h h') (h1 : Lo ≠ Lf) (h2 : D ≠ Lf) : Both Lo D h' :=
  ⟨let ⟨o, e⟩ := x.1; ⟨o, k _ _ (fun q => by rcases List.mem_cons.mp q with q | q; exact h1 q; cases q) e⟩, let ⟨o, e⟩ := x.2; ⟨o, k _ _ (fun q => by rcases List.mem_cons.mp q with q | q; exact h2 q; cases q) e⟩⟩
theorem Both.ne {Lo D x : Addr} {h : Heap} (k : Both Lo D h) (hx : h.objs.size ≤ x) : x ∉ [Lo, D] := by
  obtain ⟨⟨o1, e1⟩, o2, e2⟩ := k
  exact notin2 (Ne.symm (Nat.ne_of_lt (Nat.lt_of_lt_of_le (Heap.lt_size e1) hx))) (Ne.symm (Nat.ne_of_lt (Nat.lt_of_lt_of_le (Heap.lt_size e2) hx)))
def FrameAt (h : Heap) (L : Addr) : Prop := ∃ o es k, h.get? L = some o ∧ o.data = .dict es k ∧ es ≠ #[]
theorem frameAt_ns {h : Heap} {L : Addr} {m : Str → Option Value} (F : h.Ns L m) (x : Str) {v : Value} (hm : m x = some v) : FrameAt h L := by
  obtain ⟨o, es, ep, ho, hd, _, hf⟩ := F
  refine ⟨o, es, ep, ho, hd, ?_⟩
  rintro rfl
  have := hf x
  rw [hm] at this
  cases this
theorem FrameAt.keeps {h h' : Heap} {L : Addr} (x : FrameAt h L) (k : ∀ o, h.get? L = some o → h'.get? L = some o) : FrameAt h' L := let ⟨o, es, n, a, b⟩ := x; ⟨o, es, n, k _ a, b⟩
/-- what is no frame stands -/
def KeepS (h h' : Heap) : Prop := ∀ b o, (∀ es k, o.data = .dict es k → es = #[]) → h.get? b = some o → h'.get? b = some o
theorem keepS_of {h h' : Heap} {L : Addr} (k : KeepBut [L] h h') (f : FrameAt h L) : KeepS h h' := by
  intro b o ho hb
  refine k b o (fun hm => ?_) hb
  rcases List.mem_cons.mp hm with rfl | hm
  · obtain ⟨o', es, n, h1, h2, h3⟩ := f
    rw [hb] at h1; cases h1
    exact h3 (ho _ _ h2)
  · cases hm
theorem KeepS.trans {h h' h'' : Heap} (x : KeepS h h') (y : KeepS h' h'') : KeepS h h'' := fun b o ho e => y b o ho (x b o ho e)
theorem KeepBut.trans {X : List Addr} {h h' h'' : Heap} (x : KeepBut X h h') (y : KeepBut X h' h'') : KeepBut X h h'' := fun b o hb e => y b o hb (x b o hb e)
theorem KeepBut.refl {X : List Addr} {h : Heap} : KeepBut X h h := fun _ _ _ e => e
def FindJ (g : Str) (t1 : Tok) (h₀ : Heap) (Lo D L : Addr) : Nat → Nat → Shared → Shared → Prop := fun k n s₀ s =>
  ∃ p pre m t h' tk, k = g.length - p ∧ tags g 0 = pre ++ tags g p ∧ n = (tags g p).length ∧ p ≤ g.length ∧ s = { s₀ with heap := h', toks := tk } ∧ KeepBut [L] s₀.heap h' ∧ Both Lo D h' ∧ Fr h₀ L h' m ∧
    m (Str.ofString "place") = some (.int (p : Nat) t) ∧ m (Str.ofString "pattern") = some (.ref 93) ∧ m (Str.ofString "text") = some (.str g t1)
theorem findJ_of {g : Str} {t1 : Tok} {h₀ h' : Heap} {Lo D L : Addr} {p n tk : Nat} {i : Int} {pre : List (Nat × Nat × Nat)} {m : Str → Option Value} {t : Tok} {s₀ : Shared} (F : Fr h₀ L h' m) (h1 : tags g 0 = pre ++ tags g p) (h2 : n = (tags g p).length) (h3 : p ≤ g.length) (kp : KeepBut [L] s₀.heap h') (bo : Both Lo D h')
    (hm1 : m (Str.ofString "place") = some (.int i t)) (hi : i = (p : Nat)) (hm2 : m (Str.ofString "pattern") = some (.ref 93)) (hm3 : m (Str.ofString "text") = some (.str g t1)) : FindJ g t1 h₀ Lo D L (g.length - p) n s₀ { s₀ with heap := h', toks := tk } :=
  ⟨p, pre, m, t, h', tk, rfl, h1, h2, h3, rfl, kp, bo, F, by rw [hm1, hi], hm2, hm3⟩
def FindR (Lf : Addr) : GenEnd := fun n s₀ r s₁ => r = .ok (.ret .none) ∧ (n = 0 ∧ ∃ h' tk, s₁ = { s₀ with heap := h', toks := tk } ∧ KeepBut [Lf] s₀.heap h')
def FindY (g : Str) (h₀ : Heap) (t : Tok) (Lo D Lf : Addr) : Protocol := fun n s₀ v s kap =>
  ∃ pre p b e post x tup h' tk, tags g 0 = pre ++ (p, b, e) :: post ∧ n = post.length ∧ v = .ref x ∧ s = { s₀ with heap := h', toks := tk } ∧ KeepBut [Lf] s₀.heap h' ∧ FrameAt h' Lf ∧
    h₀.get? x = none ∧ h₀.get? tup = none ∧ h'.get? x = some (matchO g t 93 p tup) ∧ h'.get? tup = some (spanO p b e) ∧
    ∀ s'', KeepBut [Lo, D] h' s''.heap → Both Lo D s''.heap → kap (.send .none) s''
def FindIs (w : World) (g : Str) (h₀ : Heap) (t : Tok) (Lo D Lf : Addr) (h₁ : Heap) (c : Code) : Prop :=
  ∀ (d u : Nat) (gs : Option (List Code)) (fr : List Env) (s'' : Shared), d + 20 < recursionLimit → KeepBut [Lo, D] h₁ s''.heap → Both Lo D s''.heap →
    Seg (model PySem.Challenge.rw_ff5019_01.row.prog w) { handled := none, depth := d, frames := some fr, guards := gs, units := u } (FindR Lf) (FindY g h₀ t Lo D Lf) (tags g 0).length s'' c ((model PySem.Challenge.rw_ff5019_01.row.prog w).den c) [] s''

set_option maxRecDepth 100000 in
set_option maxHeartbeats 8000000 in
theorem c_find {w : World} {mean : ExcName → Option Value} {mg mb : Str → Option Value} {dp un : Nat} {gd : Option (List Code)} {cn : Str} {cs : Scope} {a : Addr} {ccd : Value} {cl : List (Str × Addr)} {outer : List Env} {A₀ : Around} {base h₀ : Heap} {L : Addr} {m : Str → Option Value} {news : List (Addr × Obj)} {s : Shared} {Q E : Value → Shared → Prop} {g : Str} {t1 : Tok} {D : Addr} (B : Below A₀ base outer h₀) (F : Fr h₀ L s.heap m) (X : (Mine.hd.heap_39 w.params).In h₀) (N : News h₀ L s.heap news)
    (T : Top Mine.hd.view_39 (looseW Mine.hd.view_39 [Str.ofString "_tuplegetter", Str.ofString "RE_TAGS", Str.ofString "Tag"]) mean mg mb h₀) (hk : cs.kind = .function) (hg : g.length ≤ 1048576) (hD : h₀.objs.size ≤ D) (hDL : D ≠ s.heap.objs.size) (hd : dp + 1 < recursionLimit)
    (hret : ∀ c h' tk', s.toks ≤ tk' → h'.objs.size = s.heap.objs.size + 2 → (∀ b o, s.heap.get? b = some o → h'.get? b = some o) → h'.IsGen (s.heap.objs.size + 1) s.gens.size → FrameAt h' s.heap.objs.size →
      FindIs w g h₀ t1 L D s.heap.objs.size h' c → Q (.ref (s.heap.objs.size + 1)) { s with heap := h', toks := tk', gens := s.gens.push (.fresh c) }) :
    wpAny (model PySem.Challenge.rw_ff5019_01.row.prog w) (ktrTop dp un gd cn cs L a ccd cl outer) (call (.ref 45) [.ref 93, .str g t1]) Q E s := by
  revert X; k_fill; intro X
  have X₁ := X.keeps F.keep
  have T₁ := T.keeps F.keep
  obtain ⟨v0, v1, v3, v4, t2, t6, hpat⟩ : ∃ v0 v1 v3 v4 t2 t6, h₀.get? 93 = some (patO v0 v1 v3 v4 t2 t6 92) := ⟨_, _, _, _, _, _, X 93 _ (by k_is)⟩
  obtain ⟨oc, items, ni, hcode, hcd, hit⟩ : ∃ oc items ni, h₀.get? 92 = some oc ∧ oc.data = .seq items ni ∧ (items.map PySem.Builtin.Re.reRawOf).map (·.toNat) = CODE := ⟨_, _, _, X 92 _ (by k_is), rfl, by decide +kernel⟩
  refine wpAny_call ?_
  refine codeAny_call_generator (show dp < _ by omega) (X₁ 45 _ (by k_is)) rfl rfl rfl rfl (codeRec_of X₁ (by k_is)) ?_
  refine wpAny_of_eq (a := [(Str.ofString "pattern", .ref 93), (Str.ofString "text", .str g t1)]) rfl ?_
  refine wpAny_newFunctionEnv (by decide) (locs rfl) ?_
  intro h₁ hns hsb
  have hz : h₁.objs.size = s.heap.objs.size + 1 := by rw [hsb.1, Heap.size_push]
  have hk₁ : ∀ b o, s.heap.get? b = some o → h₁.get? b = some o := fun b o e => hsb.extBut b o (Nat.ne_of_lt (Heap.lt_size e)) (Heap.get?_push_of_some _ e)
  refine ⟨T₁.nolimit.fresh _ hsb, ?_⟩
  dsimp only
  rw [hz]
  refine hret _ _ _ (by omega) (by rw [Heap.size_push, hz]) (fun b o e => Heap.get?_push_of_some _ (hk₁ b o e)) ⟨_, _, _, by rw [← hz]; exact Heap.get?_push_size _ rfl, rfl, rfl, rfl⟩ ((frameAt_ns hns (Str.ofString "text") rfl).keeps fun o e => Heap.get?_push_of_some _ e) ?_
  intro d u gs fr s'' hd'' hk'' hb''
  refine seg_func ?_
  have F'' : Fr h₀ s.heap.objs.size s''.heap (fun x => List.lookup x (List.reverse [(Str.ofString "pattern", Value.ref 93), (Str.ofString "text", Value.str g t1)])) := by
    have hLo : h₀.objs.size ≤ L := F.above
    have hLt : L < s.heap.objs.size := let ⟨_, _, _, e, _⟩ := F.ns; Heap.lt_size e
    refine ⟨?_, fun b o e => ?_, Nat.le_trans hLo (Nat.le_of_lt hLt)⟩
    · obtain ⟨o, es, ep, ho, r⟩ := hns
      exact ⟨o, es, ep, hk'' _ _ (notin2 (Nat.ne_of_gt hLt) (Ne.symm hDL)) (Heap.get?_push_of_some _ ho), r⟩
    · have h := Heap.lt_size e
      exact hk'' _ _ (notin2 (Nat.ne_of_lt (Nat.lt_of_lt_of_le h hLo)) (Nat.ne_of_lt (Nat.lt_of_lt_of_le h hD))) (Heap.get?_push_of_some _ (hk₁ _ _ (F.keep _ _ e)))
  have N'' : News h₀ s.heap.objs.size s''.heap [] := News.nil
  clear hret
  refine seg_execs_cons ?_
  refine g_simple ?_
  refine wpAny_A (ktrTop (d + 1) (u + 3) gs (Str.ofString "find_matches") _ s.heap.objs.size 45 _ [] fr) rfl ?_
  clear hk'' hk₁ hsb hns X₁ T₁ N hz
  have hLt : L < s.heap.objs.size := let ⟨_, _, _, e, _⟩ := F.ns; Heap.lt_size e
  have h₀L : h₀.objs.size ≤ L := F.above
  clear F
  obtain ⟨tl, N'', kk, _⟩ := ledger_keep F''
  dsimp only [newEnv]
  try k_fold
  k_steps
  dsimp only
  refine seg_execs_cons ?_
  refine seg_While ?_
  intro p₀
  have kq := kk _ _ _ (by assumption) (by assumption) (fun _ h => h)
  refine g_loop (FindJ g t1 h₀ L D s.heap.objs.size) ?_ (g.length - 0) _ _ _ (findJ_of (p := 0) (pre := []) (by assumption) rfl rfl (Nat.zero_le _) kq (hb''.keep kq (Nat.ne_of_lt hLt) hDL) rfl rfl rfl rfl)
  intro k n s₁ s₂ ih hJ
  obtain ⟨p, pre, m₂, t, h₂, tk₂, hk, htag, hn, hp, rfl, hkeep, hbo, F₂, hm1, hm2, hm3⟩ := hJ
  obtain ⟨tl₂, N₂, kk₂, _⟩ := ledger_keep F₂
  have F₃ := put_fr F₂ [(Str.ofString "place", .int (p : Nat) t), (Str.ofString "pattern", .ref 93), (Str.ofString "text", .str g t1)] (by simp [hm1, hm2, hm3])
  dsimp only [put] at F₃
  refine seg_whileLoop ?_
  refine wpAny_A (ktrTop (d + 1) (u + 3) gs (Str.ofString "find_matches") _ s.heap.objs.size 45 _ [] fr) rfl ?_
  clear kk
  try k_fold
  k_steps
  rotate_left
  · have hpe : p = g.length := by omega
    subst hpe
    rw [tags_end (Nat.le_refl _)] at hn htag
    refine seg_execs_nil ?_
    refine seg_leaf (.ok .next) ?_
    refine seg_end (.ok (.ret .none)) ⟨rfl, hn, _, _, rfl, KeepBut.trans hkeep KeepBut.refl⟩
  have hlt : p < g.length := by omega
  k_with "getMethod ref" => refine gm_match (by assumption) hpat ?_
  k_with "call builtin:re.Pattern.match" => refine k_match (by assumption) (by assumption) hpat hcode hcd hit hg hp (fun h => ?_) (fun e₁ h₁ x₁ tup₁ he₁ F₁ N₁ hx₁ ht₁ => ?_)
  refine seg_execs_cons ?_
  refine g_simple ?_
  refine wpAny_A (ktrTop (d + 1) (u + 3) gs (Str.ofString "find_matches") _ s.heap.objs.size 45 _ [] fr) rfl ?_
  try k_fold
  k_steps
  · -- no tag from here
    try dsimp only
    refine seg_execs_cons ?_
    refine g_If ?_
    refine wpAny_A (ktrTop (d + 1) (u + 3) gs (Str.ofString "find_matches") _ s.heap.objs.size 45 _ [] fr) rfl ?_
    try k_fold
    k_steps
    refine seg_execs_cons ?_
    refine g_simple ?_
    refine wpAny_A (ktrTop (d + 1) (u + 3) gs (Str.ofString "find_matches") _ s.heap.objs.size 45 _ [] fr) rfl ?_
    try k_fold
    k_steps
    try dsimp only
    refine seg_execs_nil ?_
    refine seg_execs_nil ?_
    refine seg_again rfl ?_
    have kq₂ := kk₂ _ _ _ (by assumption) (by assumption) (fun _ h => h)
    refine ih (g.length - (p + 1)) n _ _ (by omega) (findJ_of (p := p + 1) (pre := pre) (by assumption) (by rw [htag, tags_none hlt h]) (by rw [hn, tags_none hlt h]) (by omega) (KeepBut.trans hkeep kq₂) (hbo.keep kq₂ (Nat.ne_of_lt hLt) hDL) rfl rfl rfl rfl)
  · rename_i h₅ hF' hN'
    have htg := tags_some hlt he₁
    rw [htg] at hn htag
    obtain ⟨q1, q2, q3⟩ := tagEnd_gt he₁
    subst hn
    rw [List.length_cons]
    try dsimp only
    refine seg_execs_cons ?_
    refine g_If ?_
    refine wpAny_A (ktrTop (d + 1) (u + 3) gs (Str.ofString "find_matches") _ s.heap.objs.size 45 _ [] fr) rfl ?_
    try k_fold
    k_steps
    refine seg_execs_cons ?_
    refine seg_Expr_Yield rfl rfl rfl ?_
    refine wpAny_A (ktrTop (d + 1) (u + 3) gs (Str.ofString "find_matches") _ s.heap.objs.size 45 _ [] fr) rfl ?_
    try k_fold
    k_steps

    rename_i kap hkap
    refine ⟨pre, p, bs g p, e₁, tags g e₁, x₁, tup₁, _, _, htag, rfl, rfl, rfl, KeepBut.trans hkeep (kk₂ _ _ _ hF' hN' (fun _ h => .tail _ (.tail _ h))), frameAt_ns hF'.ns (Str.ofString "text") rfl, (hN' _ (.head _)).2.2, (hN' _ (.tail _ (.head _))).2.2, hN'.get (.head _), hN'.get (.tail _ (.head _)), ?_⟩
    intro s₃ hk₃ hb₃
    refine hkap .none s₃ ?_
    clear hkap
    have F₄ := fr_keep hF' hk₃ (Ne.symm (Nat.ne_of_lt hLt)) (Ne.symm hDL) h₀L hD
    have hxo := hk₃ _ _ (hbo.ne hx₁) (hN'.get (.head _))
    have hto := hk₃ _ _ (hbo.ne ht₁) (hN'.get (.tail _ (.head _)))
    obtain ⟨tl₃, N₃, kk₃, hl₃⟩ := ledger_keep F₄
    have hxm := hl₃ _ _ (hN' _ (.head _)).2.1 (hN' _ (.head _)).2.2 hxo
    have htm := hl₃ _ _ (hN' _ (.tail _ (.head _))).2.1 (hN' _ (.tail _ (.head _))).2.2 hto
    clear hl₃ hF' hN' kk₂
    k_with "getMethod ref" => refine gm_end (by assumption) hxm ?_
    k_with "call builtin:re.Match.end" => refine k_end (by assumption) hxm htm ?_
    dsimp only
    refine seg_execs_cons ?_
    refine g_simple ?_
    refine wpAny_A (ktrTop (d + 1) (u + 3) gs (Str.ofString "find_matches") _ s.heap.objs.size 45 _ [] fr) rfl ?_
    try k_fold
    k_steps
    try dsimp only
    refine seg_execs_nil ?_
    refine seg_execs_nil ?_
    refine seg_again rfl ?_
    have kq₃ := kk₃ _ _ _ (by assumption) (by assumption) (fun _ h => h)
    refine ih (g.length - e₁) _ _ _ (by have := bs_ge g p; omega) (findJ_of (p := e₁) (pre := pre ++ [(p, bs g p, e₁)]) (by assumption) (by rw [htag, List.append_assoc]; rfl) rfl q2 kq₃ (hb₃.keep kq₃ (Nat.ne_of_lt hLt) hDL) rfl rfl rfl rfl)
end Mine
end
section
open PySem PySem.W PyProof.Rows in
theorem Mine.fresh_G2 : True := by
  k_with_none
  w_top off
  trivial
open PySem PySem.W PyProof.Rows PySem.Calls
namespace Mine
section
variable {M : Model} {A : Around} {R : GenEnd} {Y : Protocol} {n : Nat} {s₀ : Shared} {c : Code} {fs : List Frame} {s : Shared} {env : Env}
  {K : Flow → Sem Fin} {H : Value → Sem Fin} {gd : Bool → Bool} {lv : List Value → List Value}
theorem g_cut (J : Nat → Shared → Shared → Prop) {st : Stmt} {rest : List Stmt}
    (htail : ∀ n s₀ s, J n s₀ s → Seg M A R Y n s₀ c ((execs rest env).wrap K H gd lv) fs s)
    (hst : (∀ n s₀ s, J n s₀ s → Seg M A R Y n s₀ c ((execs rest env).wrap K H gd lv) fs s) → Seg M A R Y n s₀ c ((exec st env).wrap (fun f => match f with | .next => (execs rest env).wrap K H gd lv | f => K f) H gd lv) fs s) :
    Seg M A R Y n s₀ c ((execs (st :: rest) env).wrap K H gd lv) fs s := seg_execs_cons (hst htail)
theorem g_For {target iter : Expr} {body orelse : List Stmt} {pos : Pos}
    (h : wpAny M (A.over c fs) (eval iter env) (fun x s₁ => wpAny M (A.over c fs) (pyIter x) (fun it s₂ =>
        ∀ p, Seg M A R Y n s₀ (.forLoop target it body orelse env) (M.den (.forLoop target it body orelse env))
      (.ret (fun r => ((match r with | .ok f => (.pure f : Sem Flow) | .error e => .raise e).onRaise fun (x : Value) => do
        if (← field x 1) == Value.none then unsupported "frame.own-activation:exception-without-traceback"
        setFlight x env.frame).wrap K H gd lv) none (gd false) (lv []) c p [] :: fs) s₂) (fun _ _ => False) s₁) (fun _ _ => False) s)
    (hs : ∀ x, foldedSetIterable iter env x = pure x := by intro _; rfl) :
    Seg M A R Y n s₀ c ((exec (.For target iter body orelse pos) env).wrap K H gd lv) fs s := by
  rw [exec_For]
  show Seg M A R Y n s₀ c (.at pos fun _ => (eval iter env >>= fun x => foldedSetIterable iter env x >>= fun x => standAt iter.pos >>= fun _ => holding [x] (pyIter x) >>= fun it => runOwn (.forLoop target it body orelse env) env).wrap K H gd lv) fs s
  refine seg_at ?_
  rw [Sem.bind_eq_wrap', Sem.wrap_wrap]
  refine seg_wrap (wpAny_mono h (fun x s₁ h₁ => ?_) fun _ _ e => e.elim)
  rw [hs x]
  show Seg M A R Y n s₀ c (.at iter.pos fun _ => (holding [x] (pyIter x) >>= fun it => runOwn (.forLoop target it body orelse env) env).wrap K H gd lv) fs s₁
  refine seg_at ?_
  rw [Sem.bind_eq_wrap', Sem.wrap_wrap]
  refine seg_wrap (wpAny_holding (wpAny_mono h₁ (fun it s₂ h₂ => ?_) fun _ _ e => e.elim))
  exact seg_call h₂
end
section
variable {prog : Program} {w : World} {A : Around} {R : GenEnd} {Y : Protocol} {n : Nat} {s₀ : Shared} {fs : List Frame} {s : Shared} {env : Env}
theorem g_forLoop {x : Str} {px : Pos} {it : Value} {body orelse : List Stmt}
    (h : wpAny (model prog w) (A.over (.forLoop (.Name x px) it body orelse env) fs) (pyNext it) (fun o s' => match o with
        | none => Seg (model prog w) A R Y n s₀ (.block orelse env) ((model prog w).den (.block orelse env)) fs s'
        | some v => wpAny (model prog w) (A.over (.forLoop (.Name x px) it body orelse env) fs) (storeName env x v) (fun _ s'' =>
          Seg (model prog w) A R Y n s₀ (.forLoop (.Name x px) it body orelse env) ((execs body env).wrap (fun f => match f with
            | .next | .cont => .pure (.again (.forLoop (.Name x px) it body orelse env))
            | .brk => .pure (.done .next)
            | .ret v => .pure (.done (.ret v))) (fun e => (do noteFrame e env; theTreesLotGoes e : Sem Unit).wrap (fun _ => .raise e) .raise id id) id id) fs s'') (fun _ _ => False) s')
      (fun _ _ => False) s) :
    Seg (model prog w) A R Y n s₀ (.forLoop (.Name x px) it body orelse env) ((model prog w).den (.forLoop (.Name x px) it body orelse env)) fs s := by
  show Seg _ A R Y n s₀ _ ((forTurn (.Name x px) it body orelse env).onRaise (fun x => do noteFrame x env; theTreesLotGoes x)) fs s
  unfold forTurn
  rw [Sem.onRaise_eq_wrap]
  refine seg_at ?_
  show Seg _ A R Y n s₀ _ ((((pyNext it).onRaise (fun _ => standAt { px with line := 0 })) >>= fun o => (match o with
    | none => again (.block orelse env)
    | some v => (do
      letOwnedTupleGo (.Name x px) it v
      assign (.Name x px) env v
      match ← execs body env with
      | .next | .cont => again (.forLoop (.Name x px) it body orelse env)
      | .brk => pure (.done .next)
      | .ret v => pure (.done (.ret v))) : Sem Fin)).wrap _ _ _ _) fs s
  rw [Sem.bind_eq_wrap', Sem.wrap_wrap]
  refine seg_wrap (wpAny_onRaise (wpAny_mono h (fun o s' ho => ?_) fun _ _ e => e.elim))
  cases o with
  | none => exact seg_again rfl ho
  | some v =>
    show Seg _ A R Y n s₀ _ ((assign (.Name x px) env v >>= fun _ => execs body env >>= _).wrap _ _ _ _) fs s'
    rw [Sem.bind_eq_wrap', Sem.wrap_wrap]
    refine seg_wrap (wpAny_assign_Name (wpAny_mono ho (fun _ s'' h2 => ?_) fun _ _ e => e.elim))
    rw [Sem.bind_eq_wrap', Sem.wrap_wrap]
    rw [Sem.wrap_congr (execs body env) _ _ (K' := fun f => match f with
            | .next | .cont => .pure (.again (.forLoop (.Name x px) it body orelse env))
            | .brk => .pure (.done .next)
            | .ret v => .pure (.done (.ret v))) (H' := (fun e => (do noteFrame e env; theTreesLotGoes e : Sem Unit).wrap (fun _ => .raise e) .raise id id))
        (fun f => by cases f <;> rfl)
        (fun e => by first | exact Sem.bind_eq_wrap _ _ | (show (do noteFrame e env; theTreesLotGoes e : Sem Unit).bind (fun _ => .raise e) = _; rw [Sem.bind_eq_wrap]))]
    exact h2
end
end Mine
end
section
open PySem PySem.W PyProof.Rows in
theorem Mine.fresh_T0 : True := by
  k_with_none
  w_top off
  trivial
open PySem PySem.W PyProof.Rows PySem.Calls
set_option maxRecDepth 100000
namespace Mine
def tagO (n : Str) (t : Tok) (v : Value) (dx : Addr) : Obj := { cls := .ref 176, dict := some dx, data := .seq #[.str n t, v] }
def noDict : Obj := { cls := .type "dict", data := .dict #[] }
theorem inst_tag {h₀ h : Heap} {L : Addr} {news : List (Addr × Obj)} {x dx : Addr} {n : Str} {t : Tok} {v : Value} (N : News h₀ L h news) (hx : (x, tagO n t v dx) ∈ news) (hdx : (dx, noDict) ∈ news) : InstAt h x (tagO n t v dx) 176 (some noDict) :=
  ⟨N.get hx, rfl, rfl, N.get hdx⟩
theorem sub_tt : isSubtype (.type "tuple") (.type "type") = pure false := by rw [isSubtype_type]; kernel_rfl
section
variable {prog : Program} {w : World} {A : Around} {E : Value → Shared → Prop} {s : Shared} {K : Frag} {C : Addr} {Q : Value → Shared → Prop}
theorem call_issub (X : K.In s.heap) {oc : Obj} (ho : s.heap.get? C = some oc) (hoc : oc.cls = .type "type") {cd : ClassData} (hcd : oc.data = .cls cd) (hm : mroIn K C (.type "tuple") = some true) (h : Q (.bool true) s) :
    wpAny (model prog w) A (call (.builtin "issubclass") [.ref C, .type "tuple"]) Q E s := by
  have L := fun (M : Model) => looks_mroIn (M := M) X hm
  obtain ⟨hh, g, d, t, os⟩ := s
  refine call_function_tree F.kind_issubclass F.plain_issubclass F.entry_issubclass (F.args_issubclass_2 _ _) ?_
  refine issubclass_outer (R := fun r s' => wants Q E r s') ?_
  unfold Builtin.«issubclass.nested»
  repeat (any_goals (first | assumption | with_reducible refine wpAny_loadPart_at ho ?_ | with_reducible refine (L _).here ?_ | wp_step))
theorem get_ty {name : Str} {id : String} {expr : Bool} (e : findCls [] (.type "tuple") (.type "type") name = some (.val (.builtin id))) (hh : handedIn (.builtin id) = true) (h : Q (.builtin id) { s with toks := s.toks + 1 }) :
    wpAny (model prog w) A (getAttr (.type "tuple") name expr) Q E s := by
  have X0 : Frag.In [] s.heap := fun a o q => by cases q
  refine cls_open (K := []) (mc := .type "type") X0 (Looks.of_pure (by kernel_rfl)) (Looks.of_pure (by kernel_rfl)) (by kernel_rfl) (looks_hook (r := none) X0 (by kernel_rfl)) (by kernel_rfl) e ?_
  refine wpAny_pure ?_
  show wpAny _ _ (handedOut _) _ _ _
  rw [handedOut_of hh]; exact wpAny_pure h
theorem gm_ty {name : Str} {pl : Sem Bool} {Q : Value × List Value → Shared → Prop} (h : wpAny (model prog w) A (getAttr (.type "tuple") name) (fun v => Q (v, [])) E s) : wpAny (model prog w) A (getMethod (.type "tuple") name pl) Q E s := by
  have X0 : Frag.In [] s.heap := fun a o q => by cases q
  unfold getMethod
  refine wpAny_bind ((Looks.andThen (Looks.of_pure (t := typeOf (.type "tuple")) (r := .type "type") (by kernel_rfl)) (looks_findIn (K := []) X0 (t := .type "type") (name := "__getattribute__") (r := some (.builtin "type.__getattribute__")) (by kernel_rfl))).here ?_)
  dsimp only
  rw [if_pos canon_tga]
  exact wpAny_bind (wpAny_mono h (fun _ _ z => wpAny_pure z) fun _ _ z => z)
set_option maxHeartbeats 400000 in
theorem call_tgi {x dx : Addr} {n : Str} {t u : Tok} {v : Value} {i : Int} {k : Nat} {y : Value} (X : K.In s.heap) (hm : mroIn K 176 (.type "tuple") = some true) (I : InstAt s.heap x (tagO n t v dx) 176 (some noDict)) (hlo : -2 ^ 63 ≤ i) (hhi : i < 2 ^ 63) (hk : seqIndex? i 2 = some k) (hy : #[.str n t, v][k]? = some y) (h : Q y s) :
    wpAny (model prog w) A (call (.builtin "tuple.__getitem__") [.ref x, .int i u]) Q E s := by
  have hx := I.at_
  have hck : ∀ (A : Around) (E : Value → Shared → Prop) (Q : Unit → Shared → Prop), Q () s → wpAny (model prog w) A (checkBuiltinCall "tuple.__getitem__" ⟨[.ref x, .int i u], []⟩) Q E s := fun A E Q q =>
    check_slot (M := model prog w) (s := s) (i := "tuple.__getitem__") (owner := "tuple") (n := "__getitem__") (self := .ref x) (rest := [.int i u]) (kw := []) (by decide +kernel) (by decide +kernel) (I.type.andThen (looks_mroIn X hm)) (PyProof.Rows.args_tuple_getitem (.ref x) (.int i u)) q
  refine wpAny_call ?_
  refine codeAny_call_builtin PyProof.Rows.slot_tuple_getitem.plain PyProof.Rows.entry_tuple_getitem ?_
  refine hck _ _ _ ?_
  clear hck
  obtain ⟨hp, g, d, tk, os⟩ := s
  have f1 := AutoSeq1.idx_int
  unfold tagO at hx
  unfold Builtin.«tuple.__getitem__»
  wp_walk using AutoSeq1.wpAny_loadPart' hx
  have hk' : seqIndex? i (#[Value.str n t, v]).size = some k := hk
  simp only [hk', hy, Option.bind_some]
  refine wpAny_ite_false (by simp; omega) ?_
  wp_walk
  exact h
theorem f_tgi : findCls [] (.type "tuple") (.type "type") "__getitem__" = some (.val (.builtin "tuple.__getitem__")) := by kernel_rfl
theorem f_tnew : findCls [] (.type "tuple") (.type "type") "__new__" = some (.val (.builtin "tuple.__new__")) := by kernel_rfl
end
end Mine
end
section
open PySem PySem.W PyProof.Rows in
theorem Mine.fresh_T1 : True := by
  k_with_none
  w_top off
  trivial
open PySem PySem.W PyProof.Rows PySem.Calls
set_option maxRecDepth 100000
namespace Mine
set_option maxRecDepth 100000 in
set_option maxHeartbeats 8000000 in
theorem c_get0 {w : World} {mean : ExcName → Option Value} {mg mb : Str → Option Value} {dp un : Nat} {gd : Option (List Code)} {cn : Str} {cs : Scope} {a : Addr} {ccd : Value} {cl : List (Str × Addr)} {outer : List Env} {A₀ : Around} {base h₀ : Heap} {L : Addr} {m : Str → Option Value} {news : List (Addr × Obj)} {s : Shared} {Q E : Value → Shared → Prop} {n : Str} {t1 : Tok} {v : Value} {x dx : Addr} (hx : (x, tagO n t1 v dx) ∈ news) (hdx : (dx, noDict) ∈ news) (B : Below A₀ base outer h₀) (F : Fr h₀ L s.heap m) (X : (Mine.hd.heap_39 w.params).In h₀) (N : News h₀ L s.heap news)
    (T : Top Mine.hd.view_39 (looseW Mine.hd.view_39 [Str.ofString "_tuplegetter", Str.ofString "RE_TAGS", Str.ofString "Tag"]) mean mg mb h₀) (hk : cs.kind = .function) (hd : dp + 10 < recursionLimit)
    (hret : ∀ h' tk', Fr h₀ L h' m → News h₀ L h' news → Q (.str n t1) { s with heap := h', toks := tk' }) :
    wpAny (model PySem.Challenge.rw_ff5019_01.row.prog w) (ktrTop dp un gd cn cs L a ccd cl outer) (call (.ref 67) [.ref 168, .ref x, .ref 176]) Q E s := by
  revert X; k_fill; intro X
  refine wpAny_call ?_
  k_dflt (refine' code_def ?k1 ?k2 ?k3 ?k4 ?k5 ?kA ?kF ?kK ?k6 ?k7 ?k8 ?k9 ?kB ?_ ?c2 ?c3 ?c4 ?c5; (case kA => exact rfl); (case kF => exact rfl); (case kK => assumption); (case k1 => k_asm); (case k2 => k_asm); (case k3 => k_asm); (case k4 => k_asm); (case k5 => k_asm); (case k6 => k_is); (case k7 => k_is); (case k8 => ktr_room); (case k9 => exact binds_K (by k_in) rfl (by k_is) rfl rfl rfl); (case c5 => decide); (case kB => exact locs rfl); (case c2 => exact rfl); (case c3 => exact rfl); (case c4 => exact rfl); k_whole; intro g' L' h' FG' F' N' B' X' T'; (try dsimp only); (try k_lift B'); (try k_fold))
  k_with "call type:type" => refine kto_own (inst_tag (by assumption) hx hdx) ?_
  k_with "call builtin:issubclass" => refine call_issub (Frag.In.keeps (by assumption) (Fr.keep (by assumption))) ((Fr.keep (by assumption)) _ _ ((by assumption : Frag.In _ _) 176 _ (by k_is))) rfl rfl (by k_is) ?_
  k_with "getMethod type:tuple" => refine gm_ty (get_ty f_tgi (by decide +kernel) ?_)
  k_with "call builtin:tuple.__getitem__" => refine call_tgi (k := 0) (Frag.In.keeps (by assumption) (Fr.keep (by assumption))) (by k_is) (inst_tag (by assumption) hx hdx) (by decide) (by decide) rfl rfl ?_
  k_steps
  all_goals exact hret _ _ (by assumption) (by assumption)
set_option maxRecDepth 100000 in
set_option maxHeartbeats 8000000 in
theorem c_get1 {w : World} {mean : ExcName → Option Value} {mg mb : Str → Option Value} {dp un : Nat} {gd : Option (List Code)} {cn : Str} {cs : Scope} {a : Addr} {ccd : Value} {cl : List (Str × Addr)} {outer : List Env} {A₀ : Around} {base h₀ : Heap} {L : Addr} {m : Str → Option Value} {news : List (Addr × Obj)} {s : Shared} {Q E : Value → Shared → Prop} {n : Str} {t1 : Tok} {v : Value} {x dx : Addr} (hx : (x, tagO n t1 v dx) ∈ news) (hdx : (dx, noDict) ∈ news) (B : Below A₀ base outer h₀) (F : Fr h₀ L s.heap m) (X : (Mine.hd.heap_39 w.params).In h₀) (N : News h₀ L s.heap news)
    (T : Top Mine.hd.view_39 (looseW Mine.hd.view_39 [Str.ofString "_tuplegetter", Str.ofString "RE_TAGS", Str.ofString "Tag"]) mean mg mb h₀) (hk : cs.kind = .function) (hd : dp + 10 < recursionLimit)
    (hret : ∀ h' tk', Fr h₀ L h' m → News h₀ L h' news → Q v { s with heap := h', toks := tk' }) :
    wpAny (model PySem.Challenge.rw_ff5019_01.row.prog w) (ktrTop dp un gd cn cs L a ccd cl outer) (call (.ref 67) [.ref 171, .ref x, .ref 176]) Q E s := by
  revert X; k_fill; intro X
  refine wpAny_call ?_
  k_dflt (refine' code_def ?k1 ?k2 ?k3 ?k4 ?k5 ?kA ?kF ?kK ?k6 ?k7 ?k8 ?k9 ?kB ?_ ?c2 ?c3 ?c4 ?c5; (case kA => exact rfl); (case kF => exact rfl); (case kK => assumption); (case k1 => k_asm); (case k2 => k_asm); (case k3 => k_asm); (case k4 => k_asm); (case k5 => k_asm); (case k6 => k_is); (case k7 => k_is); (case k8 => ktr_room); (case k9 => exact binds_K (by k_in) rfl (by k_is) rfl rfl rfl); (case c5 => decide); (case kB => exact locs rfl); (case c2 => exact rfl); (case c3 => exact rfl); (case c4 => exact rfl); k_whole; intro g' L' h' FG' F' N' B' X' T'; (try dsimp only); (try k_lift B'); (try k_fold))
  k_with "call type:type" => refine kto_own (inst_tag (by assumption) hx hdx) ?_
  k_with "call builtin:issubclass" => refine call_issub (Frag.In.keeps (by assumption) (Fr.keep (by assumption))) ((Fr.keep (by assumption)) _ _ ((by assumption : Frag.In _ _) 176 _ (by k_is))) rfl rfl (by k_is) ?_
  k_with "getMethod type:tuple" => refine gm_ty (get_ty f_tgi (by decide +kernel) ?_)
  k_with "call builtin:tuple.__getitem__" => refine call_tgi (k := 1) (Frag.In.keeps (by assumption) (Fr.keep (by assumption))) (by k_is) (inst_tag (by assumption) hx hdx) (by decide) (by decide) rfl rfl ?_
  k_steps
  all_goals exact hret _ _ (by assumption) (by assumption)
end Mine
end
section
open PySem PySem.W PyProof.Rows in
theorem Mine.fresh_T2 : True := by
  k_with_none
  w_top off
  trivial
open PySem PySem.W PyProof.Rows PySem.Calls
set_option maxRecDepth 100000
namespace Mine
theorem cls_some {K : Frag} {C : Addr} {o : Obj} {cd : ClassData} (e : K.lookup C = some o) (h : o.data = .cls cd) : (clsIn K C).isSome = true := by
  obtain ⟨c, d, da, sl⟩ := o
  cases h
  unfold clsIn
  rw [e]; rfl
theorem slot_tupga : Slot "tuple" "__getattribute__" "tuple.__getattribute__" :=
  .of (owner := "tuple") (n := "__getattribute__") (by rw [typeLookup_type, builtinLookup_eq_fast]; kernel_rfl) (by decide +kernel) (by decide +kernel) (by decide +kernel)
    (by first | exact .inl (by decide +kernel) | exact .inr (by decide +kernel)) (by rw [isSubtype_type]; kernel_rfl)
theorem entry_tupga : entryFor table "tuple.__getattribute__" = some Builtin.«object.__getattribute__» := entryFor_alias (by kernel_rfl) (by decide +kernel) rfl (by kernel_rfl)
theorem args_tupga (a b : Value) : argsOk "tuple.__getattribute__" ⟨[a, b], []⟩ := by unfold argsOk; kernel_rfl
section
variable {prog : Program} {w : World} {A : Around} {E : Value → Shared → Prop} {s : Shared} {K : Frag} {C x : Addr} {ox : Obj} {od : Option Obj} {Q : Value → Shared → Prop}
set_option maxHeartbeats 1000000 in
theorem tag_bind {g a : Value} {name : Str} {expr : Bool} (X : K.In s.heap) (I : InstAt s.heap x ox C od) (hga : findIn K (.ref C) "__getattribute__" = some (some (.builtin "tuple.__getattribute__"))) (hb : findIn K (.ref C) "__getattr__" = some none)
    (hm : mroIn K C (.type "tuple") = some true) (hf : findObj K C od name = some (.bind g a))
    (h : wpAny (model prog w) A.in1 (call g [a, .ref x, .ref C]) (fun v s' => wpAny (model prog w) A (handedOut v) Q E s') (fun _ _ => False) { s with toks := s.toks + 1 }) :
    wpAny (model prog w) A (getAttr (.ref x) name expr) Q E s := by
  have hck : ∀ (A : Around) (E : Value → Shared → Prop) (Q : Unit → Shared → Prop), Q () { s with toks := s.toks + 1 } → wpAny (model prog w) A (checkBuiltinCall "tuple.__getattribute__" ⟨[.ref x, .str name s.toks], []⟩) Q E { s with toks := s.toks + 1 } := fun A E Q q =>
    check_slot (M := model prog w) (s := { s with toks := s.toks + 1 }) (i := "tuple.__getattribute__") (owner := "tuple") (n := "__getattribute__") (self := .ref x) (rest := [.str name s.toks]) (kw := []) (by decide +kernel) (by decide +kernel) (I.type.andThen (looks_mroIn X hm)) (args_tupga _ _) q
  have L0 := I.type (M := model prog w)
  have L1 := looks_find (M := model prog w) X I hf
  refine wpAny_bind (wpAny_mkText (wpAny_holding (wpAny_bind (L0 _ _ _ _ (fun _ _ e => e) (wpAny_bind (looks_findIn X hga _ _ _ _ (fun _ _ e => e) ?_))))))
  dsimp only
  rw [show (onTheHeap (.ref C) && Value.builtin "tuple.__getattribute__" == Value.builtin "object.__getattribute__") = false from by rw [show (Value.builtin "tuple.__getattribute__" == Value.builtin "object.__getattribute__") = false from by decide +kernel, Bool.and_false], if_neg (by decide)]
  refine wpAny_bind (looks_hook (mc := .ref C) (r := none) X hb _ _ _ _ (fun _ _ e => e) (wpAny_bind (wpAny_attempt (wpAny_holding ?_))))
  unfold callGetattribute
  rw [show (expr && onTheHeap (Value.builtin "tuple.__getattribute__")) = false from Bool.and_false _, if_neg (by decide)]
  unfold boundAndCalled
  rw [slot_tupga.bind]
  refine wpAny_bind (wpAny_pure ?_)
  show wpAny _ _ (call (.builtin "tuple.__getattribute__") [.ref x, .str name s.toks]) _ _ _
  refine wpAny_call ?_
  refine codeAny_call_builtin slot_tupga.plain entry_tupga ?_
  refine hck _ _ _ ?_
  clear hck
  unfold Builtin.«object.__getattribute__»
  refine wpAny_bind (wpAny_pure ?_)
  refine wpAny_bind (wpAny_pure ?_)
  refine wpAny_bind (L0 _ _ _ _ (fun _ _ e => e) ?_)
  refine wpAny_bind (L1 _ _ _ _ (fun _ _ e => e) ?_)
  dsimp only
  show wpAny _ _ (holding [a] (call g [a, .ref x, .ref C]) >>= ret) _ _ _
  exact wpAny_bind (wpAny_holding (wpAny_mono h (fun v s' z => wpAny_pure z) fun _ _ z => z.elim))
end
set_option maxRecDepth 100000 in
set_option maxHeartbeats 8000000 in
theorem get_name {w : World} {mean : ExcName → Option Value} {mg mb : Str → Option Value} {dp un : Nat} {gd : Option (List Code)} {cn : Str} {cs : Scope} {a : Addr} {ccd : Value} {cl : List (Str × Addr)} {outer : List Env} {A₀ : Around} {base h₀ : Heap} {L : Addr} {m : Str → Option Value} {news : List (Addr × Obj)} {s : Shared} {Q E : Value → Shared → Prop} {expr : Bool} {n : Str} {t1 : Tok} {v : Value} {x dx : Addr} (B : Below A₀ base outer h₀) (F : Fr h₀ L s.heap m) (X : (Mine.hd.heap_39 w.params).In h₀) (N : News h₀ L s.heap news)
    (T : Top Mine.hd.view_39 (looseW Mine.hd.view_39 [Str.ofString "_tuplegetter", Str.ofString "RE_TAGS", Str.ofString "Tag"]) mean mg mb h₀) (hk : cs.kind = .function) (hx : (x, tagO n t1 v dx) ∈ news) (hdx : (dx, noDict) ∈ news) (hd : dp + 10 < recursionLimit)
    (hret : ∀ h' tk', Fr h₀ L h' m → News h₀ L h' news → Q (.str n t1) { s with heap := h', toks := tk' }) :
    wpAny (model PySem.Challenge.rw_ff5019_01.row.prog w) (ktrTop dp un gd cn cs L a ccd cl outer) (getAttr (.ref x) (Str.ofString "name") expr) Q E s := by
  revert X; k_fill; intro X
  have X₁ := X.keeps F.keep
  have hci : (clsIn (Mine.hd.heap_39 w.params) 176).isSome = true := cls_some (by k_is) rfl
  refine tag_bind (K := Mine.hd.heap_39 w.params) (g := .ref 67) (a := .ref 168) X₁ (inst_tag N hx hdx) (by k_is) (by k_is) (by k_is) (findObj_data hci (by k_is) (by k_is) (by k_is)) ?_
  refine c_get0 (s := { s with toks := s.toks + 1 }) hx hdx B F X N T hk hd fun h' tk' F' N' => ?_
  exact handed_on rfl (hret _ _ F' N')
set_option maxRecDepth 100000 in
set_option maxHeartbeats 8000000 in
theorem get_par {w : World} {mean : ExcName → Option Value} {mg mb : Str → Option Value} {dp un : Nat} {gd : Option (List Code)} {cn : Str} {cs : Scope} {a : Addr} {ccd : Value} {cl : List (Str × Addr)} {outer : List Env} {A₀ : Around} {base h₀ : Heap} {L : Addr} {m : Str → Option Value} {news : List (Addr × Obj)} {s : Shared} {Q E : Value → Shared → Prop} {expr : Bool} {n : Str} {t1 : Tok} {v : Value} {x dx : Addr} (B : Below A₀ base outer h₀) (F : Fr h₀ L s.heap m) (X : (Mine.hd.heap_39 w.params).In h₀) (N : News h₀ L s.heap news)
    (T : Top Mine.hd.view_39 (looseW Mine.hd.view_39 [Str.ofString "_tuplegetter", Str.ofString "RE_TAGS", Str.ofString "Tag"]) mean mg mb h₀) (hk : cs.kind = .function) (hx : (x, tagO n t1 v dx) ∈ news) (hdx : (dx, noDict) ∈ news) (hd : dp + 10 < recursionLimit) (hv : handedIn v = true)
    (hret : ∀ h' tk', Fr h₀ L h' m → News h₀ L h' news → Q v { s with heap := h', toks := tk' }) :
    wpAny (model PySem.Challenge.rw_ff5019_01.row.prog w) (ktrTop dp un gd cn cs L a ccd cl outer) (getAttr (.ref x) (Str.ofString "parameters") expr) Q E s := by
  revert X; k_fill; intro X
  have X₁ := X.keeps F.keep
  have hci : (clsIn (Mine.hd.heap_39 w.params) 176).isSome = true := cls_some (by k_is) rfl
  refine tag_bind (K := Mine.hd.heap_39 w.params) (g := .ref 67) (a := .ref 171) X₁ (inst_tag N hx hdx) (by k_is) (by k_is) (by k_is) (findObj_data hci (by k_is) (by k_is) (by k_is)) ?_
  refine c_get1 (s := { s with toks := s.toks + 1 }) hx hdx B F X N T hk hd fun h' tk' F' N' => ?_
  exact handed_on hv (hret _ _ F' N')
end Mine
end
section
open PySem PySem.W PyProof.Rows in
theorem Mine.fresh_T3 : True := by
  k_with_none
  w_top off
  trivial
open PySem PySem.W PyProof.Rows PySem.Calls
set_option maxRecDepth 100000
namespace Mine
theorem str_e (n : Str) : Str.empty ++ n = n := by
  refine PySem.Str.ext' (Array.ext' ?_)
  show (#[] ++ n.cps : Array Nat).toList = n.cps.toList
  simp
theorem own_0 (n : Str) : Str.empty ++ Str.ofString "[" ++ n ++ Str.ofString "]" = own n none := by
  rw [ofStr_lb, ofStr_rb, str_e]
  refine PySem.Str.ext' (Array.ext' ?_)
  show (#[91] ++ n.cps ++ #[93] : Array Nat).toList = _
  simp [own]
theorem ofStr_eqs : Str.ofString "=" = ⟨#[61]⟩ := by decide +kernel
theorem own_1 (n v : Str) : Str.empty ++ Str.ofString "[" ++ n ++ Str.ofString "=" ++ v ++ Str.ofString "]" = own n (some v) := by
  rw [ofStr_lb, ofStr_rb, ofStr_eqs, str_e]
  refine PySem.Str.ext' (Array.ext' ?_)
  show (#[91] ++ n.cps ++ #[61] ++ v.cps ++ #[93] : Array Nat).toList = _
  simp [own]
set_option maxRecDepth 100000 in
set_option maxHeartbeats 8000000 in
theorem c_markup0 {w : World} {mean : ExcName → Option Value} {mg mb : Str → Option Value} {dp un : Nat} {gd : Option (List Code)} {cn : Str} {cs : Scope} {a : Addr} {ccd : Value} {cl : List (Str × Addr)} {outer : List Env} {A₀ : Around} {base h₀ : Heap} {L : Addr} {m : Str → Option Value} {news : List (Addr × Obj)} {s : Shared} {Q E : Value → Shared → Prop} {n : Str} {t1 : Tok} {x dx : Addr} (B : Below A₀ base outer h₀) (F : Fr h₀ L s.heap m) (X : (Mine.hd.heap_39 w.params).In h₀) (N : News h₀ L s.heap news)
    (T : Top Mine.hd.view_39 (looseW Mine.hd.view_39 [Str.ofString "_tuplegetter", Str.ofString "RE_TAGS", Str.ofString "Tag"]) mean mg mb h₀) (hk : cs.kind = .function) (hx : (x, tagO n t1 .none dx) ∈ news) (hdx : (dx, noDict) ∈ news) (hn : n.length ≤ 1048576) (hd : dp + 20 < recursionLimit)
    (hret : ∀ h' tk' t', Fr h₀ L h' m → News h₀ L h' news → Q (.str (own n none) t') { s with heap := h', toks := tk' }) :
    codeAny (model PySem.Challenge.rw_ff5019_01.row.prog w) (ktrTop dp un gd cn cs L a ccd cl outer) (.call (.ref 115) ⟨[.ref x], []⟩) (fun r s' => match r with | .ok (.ret v) => Q v s' | .ok _ => False | .error e => E e s') s := by
  revert X; k_fill; intro X
  k_dflt cell_enter
  k_with "getAttr ref" => first
    | ((with_reducible show wpAny _ _ (getAttr (Value.ref _) (PySem.Str.ofString "name") _) _ _ _); (refine get_name (by k_asm) (by k_asm) (by k_asm) (by k_asm) (by k_asm) (by exact rfl) hx hdx (by ktr_room) ?_); intro h9 tk9 F9 N9; (try dsimp only))
    | ((with_reducible show wpAny _ _ (getAttr (Value.ref _) (PySem.Str.ofString "parameters") _) _ _ _); (refine get_par (by k_asm) (by k_asm) (by k_asm) (by k_asm) (by k_asm) (by exact rfl) hx hdx (by ktr_room) (by rfl) ?_); intro h9 tk9 F9 N9; (try dsimp only))
  k_steps
  all_goals (rw [own_0]; exact hret _ _ _ (by assumption) (by assumption))
set_option maxRecDepth 100000 in
set_option maxHeartbeats 8000000 in
theorem c_markup1 {w : World} {mean : ExcName → Option Value} {mg mb : Str → Option Value} {dp un : Nat} {gd : Option (List Code)} {cn : Str} {cs : Scope} {a : Addr} {ccd : Value} {cl : List (Str × Addr)} {outer : List Env} {A₀ : Around} {base h₀ : Heap} {L : Addr} {m : Str → Option Value} {news : List (Addr × Obj)} {s : Shared} {Q E : Value → Shared → Prop} {n v : Str} {t1 t2 : Tok} {x dx : Addr} (B : Below A₀ base outer h₀) (F : Fr h₀ L s.heap m) (X : (Mine.hd.heap_39 w.params).In h₀) (N : News h₀ L s.heap news)
    (T : Top Mine.hd.view_39 (looseW Mine.hd.view_39 [Str.ofString "_tuplegetter", Str.ofString "RE_TAGS", Str.ofString "Tag"]) mean mg mb h₀) (hk : cs.kind = .function) (hx : (x, tagO n t1 (.str v t2) dx) ∈ news) (hdx : (dx, noDict) ∈ news) (hn : n.length ≤ 1048576) (hv : v.length ≤ 1048576) (hd : dp + 20 < recursionLimit)
    (hret : ∀ h' tk' t', Fr h₀ L h' m → News h₀ L h' news → Q (.str (own n (some v)) t') { s with heap := h', toks := tk' }) :
    codeAny (model PySem.Challenge.rw_ff5019_01.row.prog w) (ktrTop dp un gd cn cs L a ccd cl outer) (.call (.ref 115) ⟨[.ref x], []⟩) (fun r s' => match r with | .ok (.ret v) => Q v s' | .ok _ => False | .error e => E e s') s := by
  revert X; k_fill; intro X
  k_dflt cell_enter
  k_with "getAttr ref" => first
    | ((with_reducible show wpAny _ _ (getAttr (Value.ref _) (PySem.Str.ofString "name") _) _ _ _); (refine get_name (by k_asm) (by k_asm) (by k_asm) (by k_asm) (by k_asm) (by exact rfl) hx hdx (by ktr_room) ?_); intro h9 tk9 F9 N9; (try dsimp only))
    | ((with_reducible show wpAny _ _ (getAttr (Value.ref _) (PySem.Str.ofString "parameters") _) _ _ _); (refine get_par (by k_asm) (by k_asm) (by k_asm) (by k_asm) (by k_asm) (by exact rfl) hx hdx (by ktr_room) (by rfl) ?_); intro h9 tk9 F9 N9; (try dsimp only))
  k_steps
  all_goals (rw [own_1]; exact hret _ _ _ (by assumption) (by assumption))
set_option maxRecDepth 100000 in
set_option maxHeartbeats 8000000 in
theorem c_str0 {w : World} {mean : ExcName → Option Value} {mg mb : Str → Option Value} {dp un : Nat} {gd : Option (List Code)} {cn : Str} {cs : Scope} {a : Addr} {ccd : Value} {cl : List (Str × Addr)} {outer : List Env} {A₀ : Around} {base h₀ : Heap} {L : Addr} {m : Str → Option Value} {news : List (Addr × Obj)} {s : Shared} {Q E : Value → Shared → Prop} {n : Str} {t1 : Tok} {x dx : Addr} (B : Below A₀ base outer h₀) (F : Fr h₀ L s.heap m) (X : (Mine.hd.heap_39 w.params).In h₀) (N : News h₀ L s.heap news)
    (T : Top Mine.hd.view_39 (looseW Mine.hd.view_39 [Str.ofString "_tuplegetter", Str.ofString "RE_TAGS", Str.ofString "Tag"]) mean mg mb h₀) (hk : cs.kind = .function) (hx : (x, tagO n t1 .none dx) ∈ news) (hdx : (dx, noDict) ∈ news) (hn : n.length ≤ 1048576) (hd : dp + 20 < recursionLimit)
    (hret : ∀ h' tk' t', Fr h₀ L h' m → News h₀ L h' news → Q (.str n t') { s with heap := h', toks := tk' }) :
    codeAny (model PySem.Challenge.rw_ff5019_01.row.prog w) (ktrTop dp un gd cn cs L a ccd cl outer) (.call (.ref 108) ⟨[.ref x], []⟩) (fun r s' => match r with | .ok (.ret v) => Q v s' | .ok _ => False | .error e => E e s') s := by
  revert X; k_fill; intro X
  k_dflt cell_enter
  k_with "getAttr ref" => first
    | ((with_reducible show wpAny _ _ (getAttr (Value.ref _) (PySem.Str.ofString "name") _) _ _ _); (refine get_name (by k_asm) (by k_asm) (by k_asm) (by k_asm) (by k_asm) (by exact rfl) hx hdx (by ktr_room) ?_); intro h9 tk9 F9 N9; (try dsimp only))
    | ((with_reducible show wpAny _ _ (getAttr (Value.ref _) (PySem.Str.ofString "parameters") _) _ _ _); (refine get_par (by k_asm) (by k_asm) (by k_asm) (by k_asm) (by k_asm) (by exact rfl) hx hdx (by ktr_room) (by rfl) ?_); intro h9 tk9 F9 N9; (try dsimp only))
  k_steps
  all_goals exact hret _ _ _ (by assumption) (by assumption)
set_option maxRecDepth 100000 in
set_option maxHeartbeats 8000000 in
theorem c_str1 {w : World} {mean : ExcName → Option Value} {mg mb : Str → Option Value} {dp un : Nat} {gd : Option (List Code)} {cn : Str} {cs : Scope} {a : Addr} {ccd : Value} {cl : List (Str × Addr)} {outer : List Env} {A₀ : Around} {base h₀ : Heap} {L : Addr} {m : Str → Option Value} {news : List (Addr × Obj)} {s : Shared} {Q E : Value → Shared → Prop} {n v : Str} {t1 t2 : Tok} {x dx : Addr} (B : Below A₀ base outer h₀) (F : Fr h₀ L s.heap m) (X : (Mine.hd.heap_39 w.params).In h₀) (N : News h₀ L s.heap news)
    (T : Top Mine.hd.view_39 (looseW Mine.hd.view_39 [Str.ofString "_tuplegetter", Str.ofString "RE_TAGS", Str.ofString "Tag"]) mean mg mb h₀) (hk : cs.kind = .function) (hx : (x, tagO n t1 (.str v t2) dx) ∈ news) (hdx : (dx, noDict) ∈ news) (hn : n.length ≤ 1048576) (hv : v.length ≤ 1048576) (hd : dp + 20 < recursionLimit)
    (hret : ∀ h' tk' t', Fr h₀ L h' m → News h₀ L h' news → Q (.str (n ++ Str.ofString " " ++ v) t') { s with heap := h', toks := tk' }) :
    codeAny (model PySem.Challenge.rw_ff5019_01.row.prog w) (ktrTop dp un gd cn cs L a ccd cl outer) (.call (.ref 108) ⟨[.ref x], []⟩) (fun r s' => match r with | .ok (.ret v) => Q v s' | .ok _ => False | .error e => E e s') s := by
  revert X; k_fill; intro X
  k_dflt cell_enter
  k_with "getAttr ref" => first
    | ((with_reducible show wpAny _ _ (getAttr (Value.ref _) (PySem.Str.ofString "name") _) _ _ _); (refine get_name (by k_asm) (by k_asm) (by k_asm) (by k_asm) (by k_asm) (by exact rfl) hx hdx (by ktr_room) ?_); intro h9 tk9 F9 N9; (try dsimp only))
    | ((with_reducible show wpAny _ _ (getAttr (Value.ref _) (PySem.Str.ofString "parameters") _) _ _ _); (refine get_par (by k_asm) (by k_asm) (by k_asm) (by k_asm) (by k_asm) (by exact rfl) hx hdx (by ktr_room) (by rfl) ?_); intro h9 tk9 F9 N9; (try dsimp only))
  k_steps
  all_goals (rw [str_e]; exact hret _ _ _ (by assumption) (by assumption))
end Mine
end
section
open PySem PySem.W PyProof.Rows in
theorem Mine.fresh_T4 : True := by
  k_with_none
  w_top off
  trivial
open PySem PySem.W PyProof.Rows PySem.Calls
set_option maxRecDepth 100000
namespace Mine
set_option maxRecDepth 100000 in
set_option maxHeartbeats 8000000 in
theorem get_markup {w : World} {mean : ExcName → Option Value} {mg mb : Str → Option Value} {dp un : Nat} {gd : Option (List Code)} {cn : Str} {cs : Scope} {a : Addr} {ccd : Value} {cl : List (Str × Addr)} {outer : List Env} {A₀ : Around} {base h₀ : Heap} {L : Addr} {m : Str → Option Value} {news : List (Addr × Obj)} {s : Shared} {Q E : Value → Shared → Prop} {expr : Bool} {n : Str} {t1 : Tok} {v : Value} {o : Option Str} {x dx : Addr} (B : Below A₀ base outer h₀) (F : Fr h₀ L s.heap m) (X : (Mine.hd.heap_39 w.params).In h₀) (N : News h₀ L s.heap news)
    (T : Top Mine.hd.view_39 (looseW Mine.hd.view_39 [Str.ofString "_tuplegetter", Str.ofString "RE_TAGS", Str.ofString "Tag"]) mean mg mb h₀) (hk : cs.kind = .function) (hx : (x, tagO n t1 v dx) ∈ news) (hdx : (dx, noDict) ∈ news) (hn : n.length ≤ 1048576) (hv : optStr v o) (ho : ∀ u, o = some u → u.length ≤ 1048576) (hd : dp + 30 < recursionLimit)
    (hret : ∀ h' tk' t', Fr h₀ L h' m → News h₀ L h' news → Q (.str (own n o) t') { s with heap := h', toks := tk' }) :
    wpAny (model PySem.Challenge.rw_ff5019_01.row.prog w) (ktrTop dp un gd cn cs L a ccd cl outer) (getAttr (.ref x) (Str.ofString "markup") expr) Q E s := by
  revert X; k_fill; intro X
  have X₁ := X.keeps F.keep
  have hci : (clsIn (Mine.hd.heap_39 w.params) 176).isSome = true := cls_some (by k_is) rfl
  refine tag_bind (K := Mine.hd.heap_39 w.params) (g := .builtin "property.__get__") (a := .ref 116) X₁ (inst_tag N hx hdx) (by k_is) (by k_is) (by k_is) (findObj_data hci (by k_is) (by k_is) (by k_is)) ?_
  refine wpAny_call (prop_get (s := { s with toks := s.toks + 1 }) X₁ (K := Mine.hd.heap_39 w.params) (fget := 115) (by k_is) ?_)
  rcases optStr_cases hv with ⟨rfl, rfl⟩ | ⟨u, t2, rfl, rfl⟩
  · exact c_markup0 (s := { s with toks := s.toks + 1 }) (Q := fun v s' => wpAny _ (ktrTop dp un gd cn cs L a ccd cl outer) (handedOut v) Q E s') (E := fun _ _ => False) B F X N T hk hx hdx hn (show dp + 20 < _ by omega) fun h' tk' t' F' N' => handed_on rfl (hret _ _ _ F' N')
  · exact c_markup1 (s := { s with toks := s.toks + 1 }) (Q := fun v s' => wpAny _ (ktrTop dp un gd cn cs L a ccd cl outer) (handedOut v) Q E s') (E := fun _ _ => False) B F X N T hk hx hdx hn (ho _ rfl) (show dp + 20 < _ by omega) fun h' tk' t' F' N' => handed_on rfl (hret _ _ _ F' N')
def strText (n : Str) : Option Str → Str
  | none => n
  | some v => n ++ Str.ofString " " ++ v
set_option maxRecDepth 100000 in
set_option maxHeartbeats 8000000 in
theorem str_tag {w : World} {mean : ExcName → Option Value} {mg mb : Str → Option Value} {dp un : Nat} {gd : Option (List Code)} {cn : Str} {cs : Scope} {a : Addr} {ccd : Value} {cl : List (Str × Addr)} {outer : List Env} {A₀ : Around} {base h₀ : Heap} {L : Addr} {m : Str → Option Value} {news : List (Addr × Obj)} {s : Shared} {Q E : Value → Shared → Prop} {n : Str} {t1 : Tok} {v : Value} {o : Option Str} {x dx : Addr} (B : Below A₀ base outer h₀) (F : Fr h₀ L s.heap m) (X : (Mine.hd.heap_39 w.params).In h₀) (N : News h₀ L s.heap news)
    (T : Top Mine.hd.view_39 (looseW Mine.hd.view_39 [Str.ofString "_tuplegetter", Str.ofString "RE_TAGS", Str.ofString "Tag"]) mean mg mb h₀) (hk : cs.kind = .function) (hx : (x, tagO n t1 v dx) ∈ news) (hdx : (dx, noDict) ∈ news) (hn : n.length ≤ 1048576) (hv : optStr v o) (ho : ∀ u, o = some u → u.length ≤ 1048576) (hd : dp + 30 < recursionLimit) (hu : un + 100 < cLine)
    (hret : ∀ h' tk' t', Fr h₀ L h' m → News h₀ L h' news → Q (.str (strText n o) t') { s with heap := h', toks := tk' }) :
    wpAny (model PySem.Challenge.rw_ff5019_01.row.prog w) (ktrTop dp un gd cn cs L a ccd cl outer) (call (.type "str") [.ref x]) Q E s := by
  revert X; k_fill; intro X
  have X₁ := X.keeps F.keep
  refine kso_call (K := Mine.hd.heap_39 w.params) (f := 108) (by have := cLine_is; simp only [units_in1]; omega) X₁ (inst_tag N hx hdx) (by k_is) (by k_is) (wpAny_call ?_)
  rcases optStr_cases hv with ⟨rfl, rfl⟩ | ⟨u, t2, rfl, rfl⟩
  · exact c_str0 (Q := StrBack Q) B F X N T hk hx hdx hn (show dp + 20 < _ by omega) fun h' tk' t' F' N' => hret _ _ _ F' N'
  · exact c_str1 (Q := StrBack Q) B F X N T hk hx hdx hn (ho _ rfl) (show dp + 20 < _ by omega) fun h' tk' t' F' N' => hret _ _ _ F' N'
set_option maxRecDepth 100000 in
set_option maxHeartbeats 8000000 in
theorem isi_tag {w : World} {mean : ExcName → Option Value} {mg mb : Str → Option Value} {dp un : Nat} {gd : Option (List Code)} {cn : Str} {cs : Scope} {a : Addr} {ccd : Value} {cl : List (Str × Addr)} {outer : List Env} {A₀ : Around} {base h₀ : Heap} {L : Addr} {m : Str → Option Value} {news : List (Addr × Obj)} {s : Shared} {Q E : Value → Shared → Prop} {n : Str} {t1 : Tok} {v : Value} {x dx : Addr} (B : Below A₀ base outer h₀) (F : Fr h₀ L s.heap m) (X : (Mine.hd.heap_39 w.params).In h₀) (N : News h₀ L s.heap news)
    (T : Top Mine.hd.view_39 (looseW Mine.hd.view_39 [Str.ofString "_tuplegetter", Str.ofString "RE_TAGS", Str.ofString "Tag"]) mean mg mb h₀) (hk : cs.kind = .function) (hx : (x, tagO n t1 v dx) ∈ news) (hdx : (dx, noDict) ∈ news)
    (hret : Q (.bool true) s) :
    wpAny (model PySem.Challenge.rw_ff5019_01.row.prog w) (ktrTop dp un gd cn cs L a ccd cl outer) (call (.builtin "isinstance") [.ref x, .ref 176]) Q E s := by
  revert X; k_fill; intro X
  exact isi_call (K := Mine.hd.heap_39 w.params) (X.keeps F.keep) (fun M => (inst_tag N hx hdx).type) (by k_is) (by intro e; cases e) hret
end Mine
end
section
open PySem PySem.W PyProof.Rows in
theorem Mine.fresh_T6 : True := by
  k_with_none
  w_top off
  trivial
open PySem PySem.W PyProof.Rows PySem.Calls
set_option maxRecDepth 100000
namespace Mine
def tagClass (s0 s2 s3 s5 : Option Value) : Obj := { cls := .type "type", data := .cls { name := Str.ofString "Tag", bases := [.type "tuple"], mro := [.ref 176, .type "tuple", .type "object"], ns := 175, qualname := Str.ofString "Tag", hasDict := false }, slots := #[s0, none, s2, s3, some .none, s5] }
theorem best_tuple : PySem.Builtin.Slots.bestBase [.type "tuple"] = pure (.type "tuple") := by first | rfl | kernel_rfl
theorem made_tuple : Bind.madeBy (.type "tuple") = pure (some "tuple.__new__") := PySem.F.called_tuple.made
section
variable {M : Model} {A : Around} {E : Value → Shared → Prop} {s : Shared} {s0 s2 s3 s5 : Option Value}
theorem tc_mro {Q : List Value → Shared → Prop} (ho : s.heap.get? 176 = some (tagClass s0 s2 s3 s5)) (h : Q [.ref 176, .type "tuple", .type "object"] s) : wpAny M A (mroOf (.ref 176)) Q E s := by
  obtain ⟨hh, g, d, t, os⟩ := s
  unfold tagClass at ho
  repeat (first | with_reducible refine wpAny_loadPart_at ho ?_ | wp_step)
  exact h
theorem tc_made {Q : Option String → Shared → Prop} (ho : s.heap.get? 176 = some (tagClass s0 s2 s3 s5)) (h : Q none s) : wpAny M A (Bind.madeBy (.ref 176)) Q E s := by
  obtain ⟨hh, g, d, t, os⟩ := s
  unfold tagClass at ho
  unfold Bind.madeBy
  repeat (first | with_reducible refine wpAny_loadPart_at ho ?_ | wp_step)
  exact h
theorem tc_static {Q : Value → Shared → Prop} (ho : s.heap.get? 176 = some (tagClass s0 s2 s3 s5)) (h : Q (.type "tuple") s) : wpAny M A (Bind.staticBase (.ref 176)) Q E s := by
  have hm := made_tuple
  have hb := best_tuple
  unfold Bind.staticBase
  refine wpAny_bind (tc_mro ho ?_)
  simp only [List.forIn_cons, List.forIn_nil]
  refine wpAny_bind (wpAny_bind (wpAny_bind (tc_made ho ?_)))
  simp only [Option.isSome_none, Bool.false_eq_true, if_false]
  refine wpAny_bind (wpAny_bind (wpAny_load ho (wpAny_pure ?_)))
  show wpAny M A (PySem.Builtin.Slots.bestBase [.type "tuple"] >>= _) _ _ _
  rw [hb]
  refine wpAny_bind (wpAny_pure (wpAny_pure ?_))
  dsimp only
  refine wpAny_bind (wpAny_bind ?_)
  rw [hm]
  refine wpAny_pure ?_
  simp only [Option.isSome_some, if_true]
  refine wpAny_pure ?_
  exact wpAny_pure (wpAny_pure h)
theorem tc_sub {Q : Bool → Shared → Prop} (ho : s.heap.get? 176 = some (tagClass s0 s2 s3 s5)) (b : Value) (r : Bool) (hr : [.ref 176, .type "tuple", .type "object"].contains b = r) (h : Q r s) : wpAny M A (isSubtype (.ref 176) b) Q E s := by
  unfold isSubtype
  refine wpAny_bind (tc_mro ho ?_)
  dsimp only
  rw [if_neg (by decide), hr]
  exact wpAny_pure h
theorem tnew_args (D : Addr) : argsOk "tuple.__new__" ⟨[.ref 176, .ref D], []⟩ := by unfold argsOk; kernel_rfl
theorem tc_check {D : Addr} {Q : Unit → Shared → Prop} (ho : s.heap.get? 176 = some (tagClass s0 s2 s3 s5)) (h : Q () s) : wpAny M A (checkBuiltinCall "tuple.__new__" ⟨[.ref 176, .ref D], []⟩) Q E s := by
  have k1 : builtinKind "tuple.__new__" = some .builtinFn := by decide +kernel
  have k2 : splitId "tuple.__new__" = some ("tuple", "__new__") := by decide +kernel
  simp only [checkBuiltinCall, k1, k2]
  obtain ⟨hh, g, d, t, os⟩ := s
  have ho' := ho
  unfold tagClass at ho'
  repeat (first | with_reducible refine wpAny_loadPart_at ho' ?_ | (with_reducible refine tc_sub ho _ _ rfl ?_) | ((fail_if_success (with_reducible refine tc_static ho ?_)); wp_step))
  refine tc_static ho ?_
  refine wpAny_bind (wpAny_of_eq made_tuple ?_)
  dsimp only
  rw [if_neg (by rw [bne_self_eq_false]; decide)]
  cases hsig : Manifest.signature? "tuple.__new__" with
  | none => exact wpAny_pure h
  | some sig =>
    have ha := tnew_args D
    simp only [argsOk, hsig] at ha
    have h2 : Bind.checkArgs "tuple.__new__" sig ⟨[.ref 176, .ref D], []⟩ = pure () := ha
    show wpAny M A (Bind.checkArgs "tuple.__new__" sig ⟨[.ref 176, .ref D], []⟩) Q E _
    rw [h2]; exact wpAny_pure h
theorem tc_here {Q : Unit → Shared → Prop} (ho : s.heap.get? 176 = some (tagClass s0 s2 s3 s5)) (h : Q () s) : wpAny M A (Bind.madeHere "tuple.__new__" (.ref 176)) Q E s := by
  unfold Bind.madeHere
  refine wpAny_bind (tc_static ho (wpAny_bind (wpAny_of_eq made_tuple ?_)))
  rw [if_neg (by rw [Option.map_some, bne_self_eq_false]; decide)]
  exact wpAny_pure h
end
section
variable {prog : Program} {w : World} {A : Around} {E : Value → Shared → Prop} {s : Shared} {s0 s2 s3 s5 : Option Value} {K : Frag}
set_option maxHeartbeats 2000000 in
theorem call_tnew {D : Addr} {n : Str} {t : Tok} {v : Value} {Q : Value → Shared → Prop} (X : K.In s.heap) (ho : s.heap.get? 176 = some (tagClass s0 s2 s3 s5)) (hi : findIn K (.ref 176) "__init__" = some (some (.builtin "object.__init__"))) (hD : s.heap.get? D = some { cls := .type "tuple", data := .seq #[.str n t, v] })
    (h : ∀ h' : Heap, (∀ b o', s.heap.get? b = some o' → h'.get? b = some o') → Q (.ref (h'.objs.size + 1)) { s with heap := (h'.push noDict).push (tagO n t v h'.objs.size) }) :
    wpAny (model prog w) A (call (.builtin "tuple.__new__") [.ref 176, .ref D]) Q E s := by
  have hT : s.TypeIs (.ref D) "tuple" := ⟨_, hD, rfl⟩
  refine wpAny_call (codeAny_call_builtin PySem.F.plain_tuple_new PySem.F.entry_tuple_new (tc_check ho ?_))
  have Li := looks_findIn (M := model prog w) X hi
  unfold Builtin.«tuple.__new__»
  dsimp only
  have L1 : ∀ {A : Around} {Q : Bool → Shared → Prop} {E : Value → Shared → Prop}, Q true s → wpAny (model prog w) A (isType (.ref 176)) Q E s := by
    intro A Q E q
    obtain ⟨hh, g, d, t, os⟩ := s
    have ho' := ho
    unfold tagClass at ho'
    repeat (first | with_reducible refine wpAny_loadPart_at ho' ?_ | wp_step)
    exact q
  refine wpAny_bind (L1 ?_)
  simp only [Bool.not_true, Bool.false_eq_true, if_false]
  refine wpAny_bind (tc_sub ho _ _ rfl ?_)
  rw [if_neg (by decide)]
  refine wpAny_bind (tc_here ho ?_)
  refine wpAny_bind (Li.here ?_)
  rw [if_pos (by decide)]
  refine wpAny_bind (wpAny_pure ?_)
  refine wpAny_bind (wpAny_pure ?_)
  rw [if_neg (by decide)]
  refine wpAny_bind (wpAny_collect_seq D (T := "tuple") (.inr rfl) hD rfl rfl (fun h' hk => ?_) (by show 2 ≤ _; decide +kernel))
  refine wpAny_bind (wpAny_pure ?_)
  refine wpAny_bind (wpAny_alloc ?_)
  refine wpAny_bind ?_
  unfold newObj
  dsimp only
  rw [if_neg (by show ¬ 2 > _; decide +kernel)]
  unfold newObjAsIs
  refine wpAny_bind (wpAny_alloc ?_)
  dsimp only
  unfold classHasDel
  refine wpAny_bind (wpAny_bind (wpAny_load (Heap.get?_push_of_some _ (Heap.get?_push_of_some _ (hk _ _ ho))) (wpAny_pure ?_)))
  refine wpAny_pure ?_
  refine wpAny_pure ?_
  rw [Heap.size_push]
  exact h h' hk
theorem fr_of {h₀ h h' : Heap} {L : Addr} {m : Str → Option Value} (F : Fr h₀ L h m) (hk : ∀ b o', h.get? b = some o' → h'.get? b = some o') : Fr h₀ L h' m := ⟨F.ns.keeps hk, fun b o e => hk _ _ (F.keep b o e), F.above⟩
theorem news_of {h₀ h h' : Heap} {L : Addr} {news : List (Addr × Obj)} (N : News h₀ L h news) (hk : ∀ b o', h.get? b = some o' → h'.get? b = some o') : News h₀ L h' news := fun p hp => ⟨hk _ _ (N p hp).1, (N p hp).2.1, (N p hp).2.2⟩
theorem k_tnew {h₀ : Heap} {L D : Addr} {m : Str → Option Value} {news : List (Addr × Obj)} {n : Str} {t : Tok} {v : Value} {Q : Value → Shared → Prop} (F : Fr h₀ L s.heap m) (N : News h₀ L s.heap news) (X : K.In h₀) (ho : h₀.get? 176 = some (tagClass s0 s2 s3 s5)) (hi : findIn K (.ref 176) "__init__" = some (some (.builtin "object.__init__")))
    (hD : (D, { cls := .type "tuple", data := .seq #[.str n t, v] }) ∈ news)
    (h : ∀ x dx h', Fr h₀ L h' m → News h₀ L h' ((x, tagO n t v dx) :: (dx, noDict) :: news) → Q (.ref x) { s with heap := h' }) :
    wpAny (model prog w) A (call (.builtin "tuple.__new__") [.ref 176, .ref D]) Q E s :=
  call_tnew (X.keeps F.keep) (F.keep _ _ ho) hi (N.get hD) fun h' hk => by
    have F' := fr_of F hk
    have N' := news_of N hk
    have := News.push (F'.push noDict) (News.push F' N' noDict) (tagO n t v h'.objs.size)
    rw [Heap.size_push] at this
    exact h _ _ _ ((F'.push noDict).push _) this
end
set_option maxRecDepth 100000 in
set_option maxHeartbeats 8000000 in
theorem c_new {w : World} {mean : ExcName → Option Value} {mg mb : Str → Option Value} {dp un : Nat} {gd : Option (List Code)} {cn : Str} {cs : Scope} {a : Addr} {ccd : Value} {cl : List (Str × Addr)} {outer : List Env} {A₀ : Around} {base h₀ : Heap} {L : Addr} {m : Str → Option Value} {news : List (Addr × Obj)} {s : Shared} {Q E : Value → Shared → Prop} {n : Str} {t1 : Tok} {v : Value} (B : Below A₀ base outer h₀) (F : Fr h₀ L s.heap m) (X : (Mine.hd.heap_39 w.params).In h₀) (N : News h₀ L s.heap news)
    (T : Top Mine.hd.view_39 (looseW Mine.hd.view_39 [Str.ofString "_tuplegetter", Str.ofString "RE_TAGS", Str.ofString "Tag"]) mean mg mb h₀) (hk : cs.kind = .function) (hd : dp + 20 < recursionLimit)
    (hret : ∀ x dx D h' tk', Fr h₀ L h' m → News h₀ L h' ((x, tagO n t1 v dx) :: (dx, noDict) :: D :: news) → Q (.ref x) { s with heap := h', toks := tk' }) :
    wpAny (model PySem.Challenge.rw_ff5019_01.row.prog w) (ktrTop dp un gd cn cs L a ccd cl outer) (call (.ref 126) [.ref 176, .str n t1, v]) Q E s := by
  revert X; k_fill; intro X
  obtain ⟨s0, s2, s3, s5, ho⟩ : ∃ s0 s2 s3 s5, h₀.get? 176 = some (tagClass s0 s2 s3 s5) := ⟨_, _, _, _, X 176 _ (by k_is)⟩
  refine wpAny_call ?_
  k_dflt cell_enter
  rename_i g8 L8 h8 FG8 F8 N8 B8 X8 T8
  have ho' := FG8.keep _ _ ho
  k_with "getMethod type:tuple" => refine gm_ty (get_ty f_tnew (by decide +kernel) ?_)
  k_with "call builtin:tuple.__new__" => ((refine k_tnew (by k_asm) (by k_asm) (by k_asm) ho' (by k_is) (.head _) ?_); intro x9 dx9 h9 F9 N9; (try dsimp only))
  k_steps
  all_goals exact hret _ _ _ _ _ (by assumption) (by assumption)
end Mine
end
section
open PySem PySem.W PyProof.Rows in
theorem Mine.fresh_T7 : True := by
  k_with_none
  w_top off
  trivial
open PySem PySem.W PyProof.Rows PySem.Calls
set_option maxRecDepth 100000
namespace Mine
theorem wpAny_A2 {α : Type} {M : Model} {A : Around} (A' : Around) {E : Value → Shared → Prop} {s : Shared} {x : Sem α} {Q : α → Shared → Prop} (e : A = A') (h : wpAny M A' x Q E s) : wpAny M A x Q E s := e ▸ h
theorem entry_oinit : entryFor table "object.__init__" = some Builtin.«object.__init__» := entryFor_of_fast (by kernel_rfl)
theorem plain_oinit : plainId "object.__init__" = true := by decide +kernel
theorem args_oinit (a b c : Value) : argsOk "object.__init__" ⟨[a, b, c], []⟩ := by unfold argsOk; kernel_rfl
section
variable {prog : Program} {w : World} {A : Around} {E : Value → Shared → Prop} {s : Shared} {s0 s2 s3 s5 : Option Value} {K : Frag}
theorem tag_init {x dx : Addr} {n : Str} {t : Tok} {v : Value} {Q : Option Value → Shared → Prop} (X : K.In s.heap) (ho : s.heap.get? 176 = some (tagClass s0 s2 s3 s5)) (hi : findIn K (.ref 176) "__init__" = some (some (.builtin "object.__init__"))) (hm : mroIn K 176 (.type "object") = some true)
    (I : InstAt s.heap x (tagO n t v dx) 176 (some noDict)) (h : Q (some .none) s) : wpAny (model prog w) A (callSpecial? (.ref x) "__init__" [.str n t, v] []) Q E s := by
  have L0 := I.type (M := model prog w)
  have Li := looks_findIn (M := model prog w) X hi
  have hck : ∀ (A : Around) (E : Value → Shared → Prop) (Q : Unit → Shared → Prop), Q () s → wpAny (model prog w) A (checkBuiltinCall "object.__init__" ⟨[.ref x, .str n t, v], []⟩) Q E s := fun A E Q q =>
    check_slot (M := model prog w) (s := s) (i := "object.__init__") (owner := "object") (n := "__init__") (self := .ref x) (rest := [.str n t, v]) (kw := []) (by decide +kernel) (by decide +kernel) (L0.andThen (looks_mroIn X hm)) (args_oinit _ _ _) q
  unfold callSpecial? specialOf
  refine wpAny_bind (wpAny_bind (L0.here (Li.here ?_)))
  dsimp only
  refine wpAny_holding ?_
  rw [oi_bind]
  refine wpAny_bind (wpAny_pure (wpAny_bind ?_))
  show wpAny _ _ (call (.builtin "object.__init__") [.ref x, .str n t, v]) _ _ _
  refine wpAny_call ?_
  refine codeAny_call_builtin plain_oinit entry_oinit ?_
  refine hck _ _ _ ?_
  clear hck
  unfold Builtin.«object.__init__»
  dsimp only
  rw [if_pos (by rfl)]
  refine wpAny_bind (L0.here (wpAny_bind (Li.here ?_)))
  refine wpAny_bind (tc_made ho ?_)
  rw [if_neg (by decide)]
  rw [if_neg (by decide)]
  exact wpAny_pure (wpAny_pure h)
end
set_option maxRecDepth 100000 in
set_option maxHeartbeats 8000000 in
theorem call_tag {w : World} {mean : ExcName → Option Value} {mg mb : Str → Option Value} {dp un : Nat} {gd : Option (List Code)} {cn : Str} {cs : Scope} {a : Addr} {ccd : Value} {cl : List (Str × Addr)} {outer : List Env} {A₀ : Around} {base h₀ : Heap} {L : Addr} {m : Str → Option Value} {news : List (Addr × Obj)} {s : Shared} {Q E : Value → Shared → Prop} {n : Str} {t1 : Tok} {v : Value} (B : Below A₀ base outer h₀) (F : Fr h₀ L s.heap m) (X : (Mine.hd.heap_39 w.params).In h₀) (N : News h₀ L s.heap news)
    (T : Top Mine.hd.view_39 (looseW Mine.hd.view_39 [Str.ofString "_tuplegetter", Str.ofString "RE_TAGS", Str.ofString "Tag"]) mean mg mb h₀) (hk : cs.kind = .function) (hd : dp + 30 < recursionLimit)
    (hret : ∀ x dx D h' tk', Fr h₀ L h' m → News h₀ L h' ((x, tagO n t1 v dx) :: (dx, noDict) :: D :: news) → Q (.ref x) { s with heap := h', toks := tk' }) :
    wpAny (model PySem.Challenge.rw_ff5019_01.row.prog w) (ktrTop dp un gd cn cs L a ccd cl outer) (call (.ref 176) [.str n t1, v]) Q E s := by
  revert X; k_fill; intro X
  obtain ⟨s0, s2, s3, s5, ho⟩ : ∃ s0 s2 s3 s5, h₀.get? 176 = some (tagClass s0 s2 s3 s5) := ⟨_, _, _, _, X 176 _ (by k_is)⟩
  have X₁ := X.keeps F.keep
  have ho₁ := F.keep _ _ ho
  have hi : findIn (Mine.hd.heap_39 w.params) (.ref 176) "__init__" = some (some (.builtin "object.__init__")) := by k_is
  have hm : mroIn (Mine.hd.heap_39 w.params) 176 (.type "object") = some true := by k_is
  have Lc := looks_specialIn (M := model PySem.Challenge.rw_ff5019_01.row.prog w) (K := Mine.hd.heap_39 w.params) (v := .ref 176) (name := "__call__") (r := some (.builtin "type.__call__")) X₁ (by k_is)
  have Lt := looks_instIn (M := model PySem.Challenge.rw_ff5019_01.row.prog w) (K := Mine.hd.heap_39 w.params) (v := .ref 176) (base := .type "type") (r := true) X₁ (by k_is)
  refine wpAny_call (codeAny_of_tree ?_)
  show wpAny _ _ (callAny (.ref 176) _) _ _ _
  refine wpAny_bind (wpAny_load ho₁ ?_)
  show wpAny _ _ (callAny.viaDunder (.ref 176) _) _ _ _
  unfold callAny.viaDunder
  refine wpAny_bind (Lc.here ?_)
  dsimp only
  rw [tc_bind]
  refine wpAny_bind (wpAny_pure ?_)
  refine wpAny_bind (wpAny_pure ?_)
  refine wpAny_pure ⟨rfl, ?_⟩
  show codeAny _ _ (.call (.builtin "type.__call__") ⟨[.ref 176, .str n t1, v], []⟩) _ _
  refine codeAny_call_builtin_at (Code.quiet_builtin _ (by decide +kernel)) entry_typeCall (check_slot (owner := "type") (n := "__call__") (by decide +kernel) (by decide +kernel) Lt (tc_args _ _ _) ?_)
  unfold Builtin.«type.__call__»
  dsimp only
  rw [if_neg (by decide)]
  refine wpAny_bind (tc_mro ho₁ ?_)
  rw [if_neg (by decide)]
  refine wpAny_bind (tc_made ho₁ ?_)
  dsimp only
  refine wpAny_bind ?_
  refine cls_sm (K := Mine.hd.heap_39 w.params) (p := 177) (f := .ref 126) F X (by k_is) (by k_is) (by k_is) (by k_is) (by rfl) ?_
  refine wpAny_bind (wpAny_holding ?_)
  refine wpAny_A2 (ktrTop (dp + 1) _ _ cn cs L a ccd cl outer) rfl ?_
  refine c_new (s := { s with toks := s.toks + 1 }) B F X N T hk (show dp + 1 + 20 < _ by omega) ?_
  intro x dx D h' tk' F' N'
  have I := inst_tag N' (.head _) (.tail _ (.head _))
  unfold isInstance
  refine wpAny_bind (wpAny_bind (I.type.here ?_))
  refine tc_sub (F'.keep _ _ ho) _ _ rfl ?_
  rw [if_neg (by decide)]
  refine wpAny_bind (wpAny_holding ?_)
  refine tag_init (s := { s with toks := tk', heap := h' }) (X.keeps F'.keep) (F'.keep _ _ ho) hi hm I ?_
  dsimp only
  rw [if_neg (by decide)]
  exact wpAny_pure (hret _ _ _ _ _ F' N')
end Mine
end
section
open PySem PySem.W PyProof.Rows in
theorem Mine.fresh_G4 : True := by
  k_with_none
  w_top off
  trivial
open PySem PySem.W PyProof.Rows PySem.Calls
namespace Mine
def FindGo (w : World) (g : Str) (h₀ : Heap) (t : Tok) (Lo D Lf : Addr) (Ar : Around) (h : Heap) (gs : GenState) (k : Nat) : Prop :=
  ∀ s'' : Shared, KeepBut [Lo, D] h s''.heap → Both Lo D s''.heap → gs.Goes (model PySem.Challenge.rw_ff5019_01.row.prog w) Ar (FindR Lf) (FindY g h₀ t Lo D Lf) k (.send .none) s''
theorem setGen_two {s s₁ : Shared} {g i : Nat} {x y : GenState} {h' : Heap} {tk : Nat} (hs : s₁ = { s.setGen g x with heap := h', toks := tk }) (hi : i ≠ g) : (s₁.setGen g y).gens[i]? = s.gens[i]? := by
  subst hs
  simp [Shared.setGen, Ne.symm hi]
theorem next_tag {w : World} {A : Around} {E : Value → Shared → Prop} {s : Shared} {g : Str} {h₀ : Heap} {t : Tok} {Lp D Lf I : Addr} {gI : Nat} {gsI : GenState} {rest done : List (Nat × Nat × Nat)} {Q : Option Value → Shared → Prop}
    (hA : A.handled = none) (hl : s.heap.NoLimit) (hroom : A.depth < recursionLimit) (hI : s.heap.IsGen I gI) (hgI : s.gens[gI]? = some gsI) (hgo : FindGo w g h₀ t Lp D Lf A.in1 s.heap gsI rest.length)
    (hbo : Both Lp D s.heap) (hLp : Lp ≠ Lf) (hDL : D ≠ Lf) (htag : tags g 0 = done ++ rest)
    (hnone : rest = [] → ∀ h' tk gens', KeepBut [Lf] s.heap h' → (∀ i, i ≠ gI → gens'[i]? = s.gens[i]?) → gens'[gI]? = some .finished → Q none { s with heap := h', toks := tk, gens := gens' })
    (hsome : ∀ p b e rest' x tup gs' h' tk gens', rest = (p, b, e) :: rest' → KeepBut [Lf] s.heap h' → FrameAt h' Lf → h₀.get? x = none → h₀.get? tup = none → h'.get? x = some (matchO g t 93 p tup) → h'.get? tup = some (spanO p b e) →
      (∀ i, i ≠ gI → gens'[i]? = s.gens[i]?) → gens'[gI]? = some gs' → FindGo w g h₀ t Lp D Lf A.in1 h' gs' rest'.length → Q (some (.ref x)) { s with heap := h', toks := tk, gens := gens' }) :
    wpAny (model PySem.Challenge.rw_ff5019_01.row.prog w) A (pyNext (.ref I)) Q E s := by
  refine wpAny_pyNext_gen (n := rest.length) (P := fun n s₀ s₁ => n = 0 ∧ ∃ h' tk, s₁ = { s₀ with heap := h', toks := tk } ∧ KeepBut [Lf] s₀.heap h') hA hl hroom hI hgI (hgo (s.setGen gI .running) KeepBut.refl hbo) (fun v s₁ gs' hY => ?_) (fun s₁ hP h' hk => ?_)
  · obtain ⟨pre, p, b, e, post, x, tup, h', tk, ht, hn, rfl, hs, hkb, hfa, hx0, ht0, hx, htu, hkap⟩ := hY
    have hbo' : Both Lp D h' := hbo.keep hkb hLp hDL
    cases hr : rest with
    | nil =>
      rw [hr] at hkap
      exact (hkap s₁ (by rw [hs]; exact KeepBut.refl) (by rw [hs]; exact hbo')).elim
    | cons r rest' =>
      rw [hr] at hkap hn
      have hlen : rest'.length = post.length := by simpa using hn
      rw [htag, hr] at ht
      obtain ⟨e1, e2⟩ := List.append_inj' ht (by simp [hlen])
      cases e2
      have hg1 : (s₁.setGen gI gs').gens[gI]? = some gs' := by
        subst hs
        exact setGen_self (s := { s.setGen gI .running with heap := h', toks := tk }) (setGen_self (s := s) hgI)
      have := hsome p b e _ x tup gs' h' tk (s₁.setGen gI gs').gens hr hkb hfa hx0 ht0 hx htu (fun i hi => setGen_two hs hi) hg1 hkap
      subst hs
      exact this
  · obtain ⟨h0, h₁, tk, hs, hkb⟩ := hP
    have hr : rest = [] := List.length_eq_zero_iff.mp h0
    have hg1 : (s₁.setGen gI .finished).gens[gI]? = some .finished := by
      subst hs
      exact setGen_self (s := { s.setGen gI .running with heap := h₁, toks := tk }) (setGen_self (s := s) hgI)
    have := hnone hr h' tk (s₁.setGen gI .finished).gens (fun b o hb e => hk _ _ (by subst hs; exact hkb b o hb e)) (fun i hi => setGen_two hs hi) hg1
    subst hs
    exact this
theorem tags_mem {g : Str} : ∀ (k q : Nat), g.length - q ≤ k → ∀ x ∈ tags g q, q ≤ x.1 ∧ x.1 < g.length ∧ x.2.1 = bs g x.1 ∧ tagEnd g x.2.1 = some x.2.2 := by
  intro k
  induction k with
  | zero => intro q hq x hx; rw [tags_end (by omega)] at hx; cases hx
  | succ k ih =>
    intro q hq x hx
    by_cases hl : q < g.length
    · cases hm : tagEnd g (bs g q) with
      | none =>
        rw [tags_none hl hm] at hx
        have := ih (q + 1) (by omega) x hx
        exact ⟨by omega, this.2⟩
      | some e =>
        rw [tags_some hl hm] at hx
        rcases List.mem_cons.mp hx with rfl | hx
        · exact ⟨Nat.le_refl _, hl, rfl, hm⟩
        · have h1 := tagEnd_gt hm
          have h2 := bs_ge g q
          have := ih e (by omega) x hx
          exact ⟨by omega, this.2⟩
    · rw [tags_end (by omega)] at hx; cases hx
end Mine
end
section
open PySem PySem.W PyProof.Rows in
theorem Mine.fresh_P3 : True := by
  k_with_none
  w_top off
  trivial
open PySem PySem.W PyProof.Rows PySem.Builtin PySem.Builtin.Str
namespace Mine
theorem ofStr_equ : Str.ofString "=" = ⟨#[61]⟩ := by decide +kernel
theorem findEq_to {g : Str} {i : Nat} (hi : i < g.length) (hc : ch g i = 61) (hn : ∀ k, k < i → ch g k ≠ 61) : ∀ k j, i - j = k → j ≤ i → findEq g j = i := by
  intro k
  induction k with
  | zero => intro j h1 h2; rw [show j = i by omega]; exact findEq_at hi hc
  | succ k ih => intro j h1 h2; rw [findEq_lt (by omega) (hn j (by omega))]; exact ih (j + 1) (by omega) (by omega)
theorem part_cut (c : Str) : Txt.partition c (Str.ofString "=") = if findEq c 0 < c.length then (sl c 0 (findEq c 0), ⟨#[61]⟩, sl c (findEq c 0 + 1) c.length) else (c, Str.empty, Str.empty) := by
  rw [ofStr_equ]
  rcases partition_whole c ⟨#[61]⟩ with ⟨hp, hn⟩ | ⟨i, hp, hi, hn⟩
  · rw [hp, if_neg]
    intro h
    refine hn (findEq c 0) ((StrLaws.subAt_one c 61 _).mpr ?_)
    rw [ch_get h, findEq_ch h]
  · have h1 := (StrLaws.subAt_one c 61 i).mp hi
    have hl : i < c.length := by
      have := (List.getElem?_eq_some_iff.mp h1).1
      simpa [Str.length] using this
    have hc : ch c i = 61 := by rw [ch_get hl] at h1; exact Option.some.inj h1
    have hf : findEq c 0 = i := findEq_to hl hc (fun k hk hq => hn k hk ((StrLaws.subAt_one c 61 k).mpr (by rw [ch_get (by omega), hq]))) i 0 (by omega) (by omega)
    rw [hp, hf, if_pos hl]
    show (strSub c 0 i, _, strSub c (i + 1) c.length) = _
    rw [show strSub c 0 i = sl c 0 i from extract_sl c 0 i, show strSub c (i + 1) c.length = sl c (i + 1) c.length from extract_sl c (i + 1) c.length]
end Mine
end
section
open PySem PySem.W PyProof.Rows in
theorem Mine.fresh_G3 : True := by
  k_with_none
  w_top off
  trivial
open PySem PySem.W PyProof.Rows PySem.Calls
namespace Mine
def RowAt (h₀ h : Heap) (x : Addr) : Row → Prop
  | .txt p t => ∃ t1 t2, h₀.get? x = none ∧ h.get? x = some { cls := .type "tuple", data := .seq #[.int (p : Nat) t1, .str t t2, .none] }
  | .tag p n v => ∃ t1 t3 tx dx vv, h₀.get? x = none ∧ h₀.get? tx = none ∧ h₀.get? dx = none ∧ h.get? x = some { cls := .type "tuple", data := .seq #[.int (p : Nat) t1, .none, .ref tx] } ∧
      h.get? tx = some (tagO n t3 vv dx) ∧ h.get? dx = some noDict ∧ optStr vv v
def DList (h : Heap) (D : Addr) : Prop := ∃ o es k, h.get? D = some o ∧ o.data = .seq es k
def ParseR (h₀ : Heap) (gens0 : Array GenState) (go : Nat) : GenEnd := fun n s₀ r s₁ => r = .ok (.ret .none) ∧ (n = 0 ∧ ∃ h' tk gens', s₁ = { s₀ with heap := h', toks := tk, gens := gens' } ∧ KeepS s₀.heap h' ∧ (∀ b o, h₀.get? b = some o → h'.get? b = some o) ∧
  gens'[go]? = s₀.gens[go]? ∧ ∀ i x, i ≠ go → gens'[i]? = some x → gens0[i]? = some x ∨ x = .finished)
def ParseY (g : Str) (h₀ : Heap) (go : Nat) (D : Addr) : Protocol := fun n s₀ v s kap =>
  ∃ pre r post x h' tk gens', rowsOf g = pre ++ r :: post ∧ n = post.length ∧ v = .ref x ∧ s = { s₀ with heap := h', toks := tk, gens := gens' } ∧ KeepS s₀.heap h' ∧ (∀ b o, h₀.get? b = some o → h'.get? b = some o) ∧
    RowAt h₀ h' x r ∧ gens'[go]? = s₀.gens[go]? ∧ ∀ s'', KeepBut [D] h' s''.heap → DList s''.heap D → (∀ i, i ≠ go → s''.gens[i]? = gens'[i]?) → kap (.send .none) s''
def ParseIs (w : World) (g : Str) (h₀ : Heap) (gens0 : Array GenState) (go : Nat) (Lp : Addr) (h₁ : Heap) (fr : List Env) (c : Code) : Prop :=
  ∀ (d u : Nat) (gs : Option (List Code)) (D : Addr) (s'' : Shared), d + 100 < recursionLimit → u + 200 < cLine → KeepBut [D] h₁ s''.heap → DList s''.heap D → Lp < D → go < s''.gens.size → (∀ i x, i ≠ go → s''.gens[i]? = some x → gens0[i]? = some x) →
    Seg (model PySem.Challenge.rw_ff5019_01.row.prog w) { handled := none, depth := d, frames := some fr, guards := gs, units := u } (ParseR h₀ gens0 go) (ParseY g h₀ go D) (rowsOf g).length s'' c ((model PySem.Challenge.rw_ff5019_01.row.prog w).den c) [] s''
def ParseT (g : Str) (t1 : Tok) (h₀ : Heap) (Lp : Addr) (gens0 : Array GenState) (go : Nat) : Nat → Shared → Shared → Prop := fun n s₀ s =>
  ∃ pre mark m t h' tk gens', rowsOf g = pre ++ rows g mark [] ∧ n = (rows g mark []).length ∧ mark ≤ g.length ∧ s = { s₀ with heap := h', toks := tk, gens := gens' } ∧ KeepS s₀.heap h' ∧ Fr h₀ Lp h' m ∧
    m (Str.ofString "position") = some (.int (mark : Nat) t) ∧ m (Str.ofString "markup") = some (.str g t1) ∧ gens'[go]? = s₀.gens[go]? ∧ ∀ i x, i ≠ go → gens'[i]? = some x → gens0[i]? = some x ∨ x = .finished
theorem keep_D {h₀ h h' : Heap} {L D : Addr} {m : Str → Option Value} (F : Fr h₀ L h m) (hD : h₀.objs.size ≤ D) (k : KeepBut [D] h h') : ∀ b o, h₀.get? b = some o → h'.get? b = some o := fun b o e =>
  k b o (fun q => by
    rcases List.mem_cons.mp q with q | q
    · rw [q] at e; exact absurd (Nat.lt_of_lt_of_le (Heap.lt_size e) hD) (Nat.lt_irrefl _)
    · cases q) (F.keep b o e)
theorem KeepS.refl {h : Heap} : KeepS h h := fun _ _ _ e => e
def ParseJ (w : World) (g : Str) (t1 : Tok) (h₀ : Heap) (Lp D Lf I : Addr) (gI : Nat) (Ar : Around) (gens0 : Array GenState) (go : Nat) : Nat → Nat → Shared → Shared → Prop := fun k n s₀ s =>
  ∃ pre done mark rest m t h' tk gens' gsI, k = rest.length ∧ rowsOf g = pre ++ rows g mark rest ∧ n = (rows g mark rest).length ∧ tags g 0 = done ++ rest ∧ mark ≤ g.length ∧ s = { s₀ with heap := h', toks := tk, gens := gens' } ∧ KeepS s₀.heap h' ∧ Fr h₀ Lp h' m ∧
    m (Str.ofString "position") = some (.int (mark : Nat) t) ∧ m (Str.ofString "markup") = some (.str g t1) ∧ m (Str.ofString "_divmod") = some (.builtin "divmod") ∧ m (Str.ofString "_Tag") = some (.ref 176) ∧
    gens'[go]? = s₀.gens[go]? ∧ (∀ i x, i ≠ go → i ≠ gI → gens'[i]? = some x → gens0[i]? = some x) ∧ gens'[gI]? = some gsI ∧ FindGo w g h₀ t1 Lp D Lf Ar.in1 h' gsI rest.length ∧ FrameAt h' Lf ∧ DList h' D ∧ h'.IsGen I gI
def ParseC (w : World) (g : Str) (t1 : Tok) (h₀ : Heap) (Lp D Lf I : Addr) (gI : Nat) (Ar : Around) (gens0 : Array GenState) (go : Nat) (gs : GenState) (k : Nat) (s₀ : Shared) (m : Str → Option Value) (h : Heap) (gens : Array GenState) : Prop :=
  KeepS s₀.heap h ∧ Fr h₀ Lp h m ∧ gens[go]? = s₀.gens[go]? ∧ (∀ i x, i ≠ go → i ≠ gI → gens[i]? = some x → gens0[i]? = some x) ∧ gens[gI]? = some gs ∧ FindGo w g h₀ t1 Lp D Lf Ar.in1 h gs k ∧ FrameAt h Lf ∧ FrameAt h Lp ∧ DList h D ∧ h.IsGen I gI
theorem not1 {b x : Nat} (h : b ≠ x) : b ∉ [x] := fun q => by rcases List.mem_cons.mp q with q | q; exact h q; cases q
theorem DList.keep {h h' : Heap} {D L : Addr} (x : DList h D) (k : KeepBut [L] h h') (hn : D ≠ L) : DList h' D := let ⟨o, es, n, a, b⟩ := x; ⟨o, es, n, k _ _ (not1 hn) a, b⟩
theorem isGen_keep {h h' : Heap} {I L : Addr} {gI : Nat} (x : h.IsGen I gI) (k : KeepBut [L] h h') (hn : I ≠ L) : h'.IsGen I gI := let ⟨o, nm, qn, a, b⟩ := x; ⟨o, nm, qn, k _ _ (not1 hn) a, b⟩
theorem findGo_keep {w : World} {g : Str} {h₀ : Heap} {t : Tok} {Lo D Lf X : Addr} {Ar : Around} {h h' : Heap} {gs : GenState} {k : Nat} (x : FindGo w g h₀ t Lo D Lf Ar h gs k) (kb : KeepBut [X] h h') (hX : X = Lo ∨ X = D) : FindGo w g h₀ t Lo D Lf Ar h' gs k :=
  fun s'' kk bo => x s'' (fun b o hb e => kk b o hb (kb b o (not1 fun q => hb (by rcases hX with rfl | rfl <;> simp [q])) e)) bo
section
variable {w : World} {g : Str} {t1 : Tok} {h₀ h h' : Heap} {Lp D Lf I : Addr} {gI : Nat} {Ar : Around} {gens0 gens gens' : Array GenState} {go : Nat} {gs : GenState} {k : Nat} {s₀ s₁ : Shared} {m m' : Str → Option Value}
theorem ParseC.step (x : ParseC w g t1 h₀ Lp D Lf I gI Ar gens0 go gs k s₀ m h gens) (kb : KeepBut [Lp] h h') (F : Fr h₀ Lp h' m') (y : Str) {v : Value} (hy : m' y = some v) (h1 : Lp < Lf) (h2 : Lp < D) (h3 : Lp < I) : ParseC w g t1 h₀ Lp D Lf I gI Ar gens0 go gs k s₀ m' h' gens := by
  obtain ⟨a1, a2, a3, a4, a5, a6, a7, a8, a9, a10⟩ := x
  exact ⟨a1.trans (keepS_of kb a8), F, a3, a4, a5, findGo_keep a6 kb (.inl rfl), a7.keeps fun o e => kb _ _ (not1 (Nat.ne_of_gt h1)) e, frameAt_ns F.ns y hy, a9.keep kb (Nat.ne_of_gt h2), isGen_keep a10 kb (Nat.ne_of_gt h3)⟩
theorem dlist_ne {L : Addr} (x : DList h D) (f : FrameAt h L) : L ≠ D := by
  rintro rfl
  obtain ⟨o, es, n, a, b⟩ := x
  obtain ⟨o', es', n', a', b', _⟩ := f
  rw [a] at a'; cases a'; rw [b] at b'; cases b'
theorem isGen_ne (x : DList h D) (f : h.IsGen I gI) : I ≠ D := by
  rintro rfl
  obtain ⟨o, es, n, a, b⟩ := x
  obtain ⟨o', _, _, a', _, b', _⟩ := f
  rw [a] at a'; cases a'; rw [b] at b'; cases b'
theorem ParseC.resume (x : ParseC w g t1 h₀ Lp D Lf I gI Ar gens0 go gs k s₀ m h gens) (kb : KeepBut [D] h s₁.heap) (hD : DList s₁.heap D) (hg : ∀ i, i ≠ go → s₁.gens[i]? = gens[i]?) (hD0 : h₀.objs.size ≤ D) (hgI : gI ≠ go) : ParseC w g t1 h₀ Lp D Lf I gI Ar gens0 go gs k s₁ m s₁.heap s₁.gens := by
  obtain ⟨a1, a2, a3, a4, a5, a6, a7, a8, a9, a10⟩ := x
  refine ⟨KeepS.refl, ⟨?_, keep_D a2 hD0 kb, a2.above⟩, rfl, fun i y hi hj hx => a4 i y hi hj (by rw [← hg i hi]; exact hx), by rw [hg gI hgI]; exact a5, findGo_keep a6 kb (.inr rfl), a7.keeps fun o e => kb _ _ (not1 (dlist_ne a9 a7)) e, a8.keeps fun o e => kb _ _ (not1 (dlist_ne a9 a8)) e, hD, isGen_keep a10 kb (isGen_ne a9 a10)⟩
  obtain ⟨o, es, ep, ho, r⟩ := a2.ns
  exact ⟨o, es, ep, kb _ _ (not1 (dlist_ne a9 a8)) ho, r⟩
end
theorem fr_keep1 {h₀ h h' : Heap} {L X : Addr} {m : Str → Option Value} (F : Fr h₀ L h m) (hk : KeepBut [X] h h') (h1 : L < X) : Fr h₀ L h' m := by
  refine ⟨?_, fun b o e => ?_, F.above⟩
  · obtain ⟨o, es, ep, ho, r⟩ := F.ns
    exact ⟨o, es, ep, hk _ _ (not1 (Nat.ne_of_lt h1)) ho, r⟩
  · exact hk _ _ (not1 (Nat.ne_of_lt (Nat.lt_of_lt_of_le (Heap.lt_size e) (Nat.le_trans F.above (Nat.le_of_lt h1))))) (F.keep _ _ e)
def lastRow (g : Str) (p b e : Nat) : Row := if (b - p) % 2 = 1 then .txt (p + 2 * ((b - p) / 2)) (sl g b e) else .tag (p + 2 * ((b - p) / 2)) (cutName (sl g (b + 1) (e - 1))) (cutVal (sl g (b + 1) (e - 1)))
def ParseE (w : World) (g : Str) (t1 : Tok) (h₀ : Heap) (Lp D Lf I : Addr) (gI : Nat) (Ar : Around) (gens0 : Array GenState) (go : Nat) (gs : GenState) (p b e : Nat) (rest : List (Nat × Nat × Nat)) (rs : List Row) (st r : Nat) : Nat → Shared → Shared → Prop := fun n s₀ s =>
  ∃ pre m h tk gens ta tb tc td te tf, rowsOf g = pre ++ (rs ++ rows g e rest) ∧ n = (rs ++ rows g e rest).length ∧ s = { s₀ with heap := h, toks := tk, gens := gens } ∧ ParseC w g t1 h₀ Lp D Lf I gI Ar gens0 go gs rest.length s₀ m h gens ∧
    m (Str.ofString "markup") = some (.str g t1) ∧ m (Str.ofString "_divmod") = some (.builtin "divmod") ∧ m (Str.ofString "_Tag") = some (.ref 176) ∧
    m (Str.ofString "start") = some (.int (st : Nat) ta) ∧ m (Str.ofString "end") = some (.int (e : Nat) tb) ∧ m (Str.ofString "full_text") = some (.str (sl g p e) tc) ∧ m (Str.ofString "escapes") = some (.str (sl g p b) td) ∧ m (Str.ofString "tag_text") = some (.str (sl g (b + 1) (e - 1)) te) ∧ m (Str.ofString "escaped") = some (.int (r : Nat) tf)
theorem mul_eq {n : Int} (h1 : 1 ≤ n) : Txt.mul (Str.ofString "\\") n = bsl n.toNat := by
  rw [ofStr_bs]
  unfold Txt.mul bsl
  rw [if_neg (by omega)]
  by_cases hn : n = 1
  · subst hn; rfl
  · rw [if_neg (by simp [Str.length, hn])]
    refine PySem.Str.ext' (Array.ext' ?_)
    generalize n.toNat = k
    have key : ∀ (k : Nat) (acc : Array Nat), ((List.replicate k (#[92] : Array Nat)).foldl (· ++ ·) acc).toList = acc.toList ++ List.replicate k 92 := by
      intro k
      induction k with
      | zero => intro acc; simp
      | succ k ih => intro acc; rw [List.replicate_succ, List.foldl_cons, ih]; simp [List.replicate_succ]
    rw [key]; simp
theorem parseJ_of {w : World} {g : Str} {t1 : Tok} {h₀ h : Heap} {Lp D Lf I : Addr} {gI : Nat} {Ar : Around} {gens0 gens : Array GenState} {go : Nat} {gs : GenState} {rest done : List (Nat × Nat × Nat)} {s₀ : Shared} {m : Str → Option Value} {pre : List Row} {mark tk : Nat} {t : Tok}
    (C : ParseC w g t1 h₀ Lp D Lf I gI Ar gens0 go gs rest.length s₀ m h gens) (hrow : rowsOf g = pre ++ rows g mark rest) (htag : tags g 0 = done ++ rest) (hmk : mark ≤ g.length)
    (e1 : m (Str.ofString "position") = some (.int (mark : Nat) t)) (e2 : m (Str.ofString "markup") = some (.str g t1)) (e3 : m (Str.ofString "_divmod") = some (.builtin "divmod")) (e4 : m (Str.ofString "_Tag") = some (.ref 176)) :
    ParseJ w g t1 h₀ Lp D Lf I gI Ar gens0 go rest.length (rows g mark rest).length s₀ { s₀ with heap := h, toks := tk, gens := gens } :=
  ⟨pre, done, mark, rest, m, t, h, tk, gens, gs, rfl, hrow, rfl, htag, hmk, rfl, C.1, C.2.1, e1, e2, e3, e4, C.2.2.1, C.2.2.2.1, C.2.2.2.2.1, C.2.2.2.2.2.1, C.2.2.2.2.2.2.1, C.2.2.2.2.2.2.2.2.1, C.2.2.2.2.2.2.2.2.2⟩
theorem sl_sl {g : Str} {p b e : Nat} (h1 : p ≤ b) (h2 : b ≤ e) (h3 : e ≤ g.length) : sl (sl g p e) (b - p) (e - p) = sl g b e := by
  refine PySem.Str.ext' (Array.ext' ?_)
  rw [sl_toList, sl_toList, sl_toList, List.drop_take, List.drop_drop, List.take_take]
  congr 1
  · omega
  · congr 1; omega
theorem truthy_two {prog : Program} {w : World} {A : Around} {E : Value → Shared → Prop} {s : Shared} {x : Str} {t : Tok} {Q : Bool → Shared → Prop} (hl : x.length ≤ 1048576) (h0 : x.length = 0 → ∀ k, Q false { s with toks := k }) (h1 : 0 < x.length → ∀ k, Q true { s with toks := k }) :
    wpAny (model prog w) A (truthy (.str x t)) Q E s := by
  by_cases h : x.length = 0
  · exact KXt.truthy (b := false) (by simp [h]) (by omega) (h0 h)
  · exact KXt.truthy (b := true) (by simp; omega) (by omega) (h1 (by omega))
theorem g_loopA {M : Model} {A : Around} {R : GenEnd} {Y : Protocol} {c : Code} {fs : List Frame} (J : Around → Nat → Nat → Shared → Shared → Prop)
    (step : ∀ Ar, Ar = A.over c fs → ∀ k n s₀ s, (∀ k' n' s₀' s', k' < k → J Ar k' n' s₀' s' → Seg M A R Y n' s₀' c (M.den c) fs s') → J Ar k n s₀ s → Seg M A R Y n s₀ c (M.den c) fs s) :
    ∀ k n s₀ s, J (A.over c fs) k n s₀ s → Seg M A R Y n s₀ c (M.den c) fs s := g_loop (J (A.over c fs)) (step _ rfl)
def ParseB (w : World) (g : Str) (t1 : Tok) (h₀ : Heap) (Lp D Lf I : Addr) (gI : Nat) (Ar : Around) (gens0 : Array GenState) (go : Nat) (gs : GenState) (p b e : Nat) (rest : List (Nat × Nat × Nat)) (rs : List Row) (st : Nat) : Nat → Shared → Shared → Prop := fun n s₀ s =>
  ∃ pre m h tk gens ta tb tc td te, rowsOf g = pre ++ (rs ++ rows g e rest) ∧ n = (rs ++ rows g e rest).length ∧ s = { s₀ with heap := h, toks := tk, gens := gens } ∧ ParseC w g t1 h₀ Lp D Lf I gI Ar gens0 go gs rest.length s₀ m h gens ∧
    m (Str.ofString "markup") = some (.str g t1) ∧ m (Str.ofString "_divmod") = some (.builtin "divmod") ∧ m (Str.ofString "_Tag") = some (.ref 176) ∧
    m (Str.ofString "start") = some (.int (st : Nat) ta) ∧ m (Str.ofString "end") = some (.int (e : Nat) tb) ∧ m (Str.ofString "full_text") = some (.str (sl g p e) tc) ∧ m (Str.ofString "escapes") = some (.str (sl g p b) td) ∧ m (Str.ofString "tag_text") = some (.str (sl g (b + 1) (e - 1)) te)
theorem below_here {A₀ : Around} {base h₀ h : Heap} {outer : List Env} {L a : Addr} {m : Str → Option Value} {cn : Str} {cs : Scope} {ccd : Value} {cl : List (Str × Addr)} (A : Around) (hA : A.frames = some (envX cn cs L a ccd cl :: outer))
    (B : Below A₀ base outer h₀) (F : Fr h₀ L h m) (hk : cs.kind = .function) : Below A base (envX cn cs L a ccd cl :: outer) h := by
  have hnew : base.get? L = none := by
    cases hq : base.get? L with
    | none => rfl
    | some o => exact absurd (Nat.lt_of_lt_of_le (Heap.lt_size (B.stays L o hq)) F.above) (Nat.lt_irrefl _)
  refine ⟨hA, fun b o e => F.keep b o (B.stays b o e), ?_⟩
  exact .cons (by show cs.kind ≠ .module; rw [hk]; decide) rfl F.ns hnew (B.frames.of_keeps fun b o e _ => ⟨o, F.keep b o e, rfl⟩)

set_option maxRecDepth 100000 in
set_option maxHeartbeats 8000000 in
theorem c_parse {w : World} {mean : ExcName → Option Value} {mg mb : Str → Option Value} {dp un : Nat} {gd : Option (List Code)} {cn : Str} {cs : Scope} {a : Addr} {ccd : Value} {cl : List (Str × Addr)} {outer : List Env} {A₀ : Around} {base h₀ : Heap} {L : Addr} {m : Str → Option Value} {news : List (Addr × Obj)} {s : Shared} {Q E : Value → Shared → Prop} {g : Str} {t1 : Tok} (B : Below A₀ base outer h₀) (F : Fr h₀ L s.heap m) (X : (Mine.hd.heap_39 w.params).In h₀) (N : News h₀ L s.heap news)
    (T : Top Mine.hd.view_39 (looseW Mine.hd.view_39 [Str.ofString "_tuplegetter", Str.ofString "RE_TAGS", Str.ofString "Tag"]) mean mg mb h₀) (hk : cs.kind = .function) (hg : g.length ≤ 1048576) (hd : dp + 1 < recursionLimit)
    (hret : ∀ c h' tk', s.toks ≤ tk' → h'.objs.size = s.heap.objs.size + 2 → (∀ b o, s.heap.get? b = some o → h'.get? b = some o) → h'.IsGen (s.heap.objs.size + 1) s.gens.size →
      ParseIs w g s.heap s.gens s.gens.size s.heap.objs.size h' (envX cn cs L a ccd cl :: outer) c → Q (.ref (s.heap.objs.size + 1)) { s with heap := h', toks := tk', gens := s.gens.push (.fresh c) }) :
    wpAny (model PySem.Challenge.rw_ff5019_01.row.prog w) (ktrTop dp un gd cn cs L a ccd cl outer) (call (.ref 186) [.str g t1]) Q E s := by
  revert X; k_fill; intro X
  have X₁ := X.keeps F.keep
  have T₁ := T.keeps F.keep
  have B₁ := below_here (ktrTop dp un gd cn cs L a ccd cl outer) rfl B F hk
  refine wpAny_call ?_
  refine codeAny_call_generator (show dp < _ by omega) (X₁ 186 _ (by k_is)) rfl rfl rfl rfl (codeRec_of X₁ (by k_is)) ?_
  refine wpAny_of_eq (a := [(Str.ofString "markup", .str g t1)]) rfl ?_
  refine wpAny_newFunctionEnv (by decide) (locs rfl) ?_
  intro h₁ hns hsb
  have hz : h₁.objs.size = s.heap.objs.size + 1 := by rw [hsb.1, Heap.size_push]
  have hk₁ : ∀ b o, s.heap.get? b = some o → h₁.get? b = some o := fun b o e => hsb.extBut b o (Nat.ne_of_lt (Heap.lt_size e)) (Heap.get?_push_of_some _ e)
  refine ⟨T₁.nolimit.fresh _ hsb, ?_⟩
  dsimp only
  rw [hz]
  refine hret _ _ _ (by omega) (by rw [Heap.size_push, hz]) (fun b o e => Heap.get?_push_of_some _ (hk₁ b o e)) ⟨_, _, _, by rw [← hz]; exact Heap.get?_push_size _ rfl, rfl, rfl, rfl⟩ ?_
  clear hret
  intro d u gs D s'' hd'' hu'' hk'' hD'' hLD hgo hgens
  generalize hgz : s.gens.size = go at hgo hgens ⊢
  generalize hg0 : s.gens = gens0 at hgens ⊢
  refine seg_func ?_
  have hneD : ∀ {b : Nat}, b ≤ s.heap.objs.size → b ∉ [D] := fun hb h => by
    rcases List.mem_cons.mp h with h | h
    · rw [h] at hb; exact absurd (Nat.lt_of_le_of_lt hb hLD) (Nat.lt_irrefl _)
    · cases h
  have F'' : Fr s.heap s.heap.objs.size s''.heap (fun x => List.lookup x (List.reverse [(Str.ofString "markup", Value.str g t1)])) := by
    refine ⟨?_, fun b o e => hk'' _ _ (hneD (Nat.le_of_lt (Heap.lt_size e))) (Heap.get?_push_of_some _ (hk₁ _ _ e)), Nat.le_refl _⟩
    obtain ⟨o, es, ep, ho, r⟩ := hns
    exact ⟨o, es, ep, hk'' _ _ (hneD (Nat.le_refl _)) (Heap.get?_push_of_some _ ho), r⟩
  clear hk'' hk₁ hsb hns hz
  generalize hh0 : s.heap = hp at X₁ T₁ B₁ F'' hLD hneD ⊢
  generalize hLp : hp.objs.size = Lp at F'' hLD hneD ⊢
  have hLp' : hp.objs.size ≤ Lp := Nat.le_of_eq hLp
  clear hgz hg0 X T B F N hh0 hLp hk hd
  clear hneD
  obtain ⟨tl, N'', kk, hl⟩ := ledger_keep F''
  clear hl
  have fa0 := frameAt_ns F''.ns (Str.ofString "markup") (v := .str g t1) rfl
  refine seg_execs_cons ?_
  refine g_simple ?_
  refine wpAny_A (ktrTop (d + 1) (u + 3) gs (Str.ofString "_parse") _ Lp 186 _ [] (envX cn cs L a ccd cl :: outer)) rfl ?_
  dsimp only [newEnv]
  try k_fold
  k_steps
  try dsimp only
  refine seg_execs_cons ?_
  refine g_simple ?_
  refine wpAny_A (ktrTop (d + 1) (u + 3) gs (Str.ofString "_parse") _ Lp 186 _ [] (envX cn cs L a ccd cl :: outer)) rfl ?_
  try dsimp only [newEnv]
  try k_fold
  k_steps
  try dsimp only
  refine seg_execs_cons ?_
  refine g_simple ?_
  refine wpAny_A (ktrTop (d + 1) (u + 3) gs (Str.ofString "_parse") _ Lp 186 _ [] (envX cn cs L a ccd cl :: outer)) rfl ?_
  try dsimp only [newEnv]
  try k_fold
  k_steps
  try dsimp only
  refine seg_execs_cons ?_
  refine g_simple ?_
  refine wpAny_A (ktrTop (d + 1) (u + 3) gs (Str.ofString "_parse") _ Lp 186 _ [] (envX cn cs L a ccd cl :: outer)) rfl ?_
  try dsimp only [newEnv]
  try k_fold
  k_steps
  try dsimp only
  refine g_cut (ParseT g t1 hp Lp gens0 go) ?_ ?_
  · intro n s₁ s₂ hJ
    obtain ⟨pre, mark, m₂, t, h₂, tk₂, gens₂, hrow, hn, hmk, rfl, hks, F₂, hm1, hm2, hg1, hg2⟩ := hJ
    obtain ⟨tl₂, N₂, kk₂, hl₂⟩ := ledger_keep F₂
    clear hl₂
    have ks₂ : ∀ h' m' tl', Fr hp Lp h' m' → News hp Lp h' tl' → (∀ p ∈ tl₂, p ∈ tl') → KeepS s₁.heap h' := fun _ _ _ a b c => hks.trans (keepS_of (kk₂ _ _ _ a b c) (frameAt_ns F₂.ns (Str.ofString "markup") hm2))
    have F₃ := put_fr F₂ [(Str.ofString "position", .int (mark : Nat) t), (Str.ofString "markup", .str g t1)] (by simp [hm1, hm2])
    dsimp only [put] at F₃
    refine seg_execs_cons ?_
    refine g_If ?_
    refine wpAny_A (ktrTop (d + 1) (u + 3) gs (Str.ofString "_parse") _ Lp 186 _ [] (envX cn cs L a ccd cl :: outer)) rfl ?_
    try k_fold
    k_steps
    try dsimp only

    rotate_left
    · have hz : rows g mark [] = [] := if_neg (by omega)
      rw [hz] at hn
      refine seg_execs_nil ?_
      refine seg_execs_nil ?_
      exact seg_end (.ok (.ret .none)) ⟨rfl, hn, h₂, _, gens₂, rfl, hks, F₂.keep, hg1, hg2⟩
    · have hz : rows g mark [] = [.txt mark (sl g mark g.length)] := if_pos (by omega)
      rw [hz] at hn hrow
      subst hn
      refine seg_execs_cons ?_
      refine seg_Expr_Yield rfl rfl rfl ?_
      refine wpAny_A (ktrTop (d + 1) (u + 3) gs (Str.ofString "_parse") _ Lp 186 _ [] (envX cn cs L a ccd cl :: outer)) rfl ?_
      try k_fold
      k_steps
      try dsimp only

      rename_i h₅ F₅ N₅ l₅ kap hkap
      rw [slice_from (by omega) (by omega), Int.toNat_natCast] at N₅
      refine ⟨pre, _, [], _, h₅, _, gens₂, hrow, rfl, rfl, rfl, ks₂ _ _ _ F₅ N₅ (fun _ h => .tail _ h), F₅.keep, ⟨_, _, (N₅ _ (.head _)).2.2, N₅.get (.head _)⟩, hg1, ?_⟩
      intro s₃ hk₃ hd₃ hg₃
      refine hkap .none s₃ ?_
      clear hkap
      dsimp only
      refine seg_execs_nil ?_
      refine seg_execs_nil ?_
      exact seg_end (.ok (.ret .none)) ⟨rfl, rfl, s₃.heap, s₃.toks, s₃.gens, rfl, KeepS.refl, keep_D F₅ (Nat.le_trans hLp' (Nat.le_of_lt hLD)) hk₃, rfl, fun i x hi hx => hg2 i x hi (by rw [← hg₃ i hi]; exact hx)⟩
  · intro htail
    rename_i h6 F6 N6
    have kq := kk _ _ _ F6 N6 (fun _ h => h)
    have hD6 : DList h6 D := by
      obtain ⟨o, es, k, e1, e2⟩ := hD''
      exact ⟨o, es, k, kq _ _ (fun h => by rcases List.mem_cons.mp h with h | h; exact absurd h (Nat.ne_of_gt hLD); cases h) e1, e2⟩
    have hDz : D ≠ h6.objs.size := by obtain ⟨o, es, k, e1, e2⟩ := hD6; exact Nat.ne_of_lt (Heap.lt_size e1)
    have hhD : hp.objs.size ≤ D := Nat.le_trans hLp' (Nat.le_of_lt hLD)
    have ks6 : KeepS s''.heap h6 := keepS_of kq fa0
    refine g_For ?_
    refine wpAny_A (ktrTop (d + 1) (u + 3) gs (Str.ofString "_parse") _ Lp 186 _ [] (envX cn cs L a ccd cl :: outer)) rfl ?_
    k_with "call ref" => ((refine c_find (A₀ := ktrTop dp un gd cn cs L a ccd cl outer) (D := D) B₁ F6 X₁ N6 T₁ (by exact rfl) hg hhD hDz (by ktr_room) ?_); intro c7 h7 tk7 htk7 hz7 hk7 hg7 hf7 hi7)
    try k_fold
    k_steps
    dsimp only at hz7 hk7 hg7 hf7 hi7
    refine wpAny_pyIter_gen hg7 ?_
    intro p₀
    have F7 := fr_of F6 hk7
    have hLf : Lp < h6.objs.size := F6.ns.lt
    have hgo' : go < s''.gens.size := hgo
    generalize hLfe : h6.objs.size = Lf at hz7 hg7 hf7 hi7 hLf hDz ⊢
    generalize hIe : Lf + 1 = I at hg7 ⊢
    generalize hgIe : s''.gens.size = gI at hg7 hgo' ⊢
    have hgIgo : gI ≠ go := Nat.ne_of_gt hgo'
    have hLI : Lp < I := by rw [← hIe]; exact Nat.lt_succ_of_lt hLf
    have hILf : I ≠ Lf := by rw [← hIe]; exact Nat.succ_ne_self Lf
    refine g_loopA (fun Ar => ParseJ w g t1 hp Lp D Lf I gI Ar gens0 go) ?_ (tags g 0).length _ _ _ ⟨[], [], 0, tags g 0, _, _, h7, _, _, .fresh c7, rfl, rfl, rfl, rfl, Nat.zero_le _, rfl, ks6.trans (fun b o _ e => hk7 b o e), F7, rfl, rfl, rfl, rfl, ?_, ?_, ?_, ?_, hf7, ?_, hg7⟩
    · intro Ar hAr k n s₁ s₂ ih hJ
      obtain ⟨pre, done, mark, rest, m₂, t, h₂, tk₂, gens₂, gsI, hkr, hrow, hn, htag, hmk, rfl, hks, F₂, hm1, hm2, hm3, hm4, hg1, hg2, hgI, hgo2, hfa, hD2, hI⟩ := hJ
      clear kq hD6 ks6 hz7 F7 F6 N6 hi7 hf7 hk7 htk7 hg7 hIe hgIe hLfe kk fa0
      have hfp := frameAt_ns F₂.ns (Str.ofString "markup") hm2
      have hbo : Both Lp D h₂ := ⟨let ⟨o, es, n, a, _⟩ := hfp; ⟨o, a⟩, let ⟨o, es, n, a, _⟩ := hD2; ⟨o, a⟩⟩
      refine g_forLoop ?_
      rw [← hAr]
      refine next_tag (h₀ := hp) (by rw [hAr]; rfl) (T₁.nolimit.keeps F₂.keep) (by rw [hAr]; show d + 1 < _; omega) hI hgI hgo2 hbo (Nat.ne_of_lt hLf) hDz htag ?_ ?_
      · intro hr h3 tk3 gens3 hkb3 hgo3 hfin3
        subst hr
        refine seg_leaf (.ok .next) ?_
        refine htail n s₁ _ ⟨pre, mark, m₂, t, h3, tk3, gens3, hrow, hn, hmk, rfl, hks.trans (keepS_of hkb3 hfa), fr_keep1 F₂ hkb3 hLf, hm1, hm2, (hgo3 go (Ne.symm hgIgo)).trans hg1, ?_⟩
        · intro i x hi hx
          by_cases hj : i = gI
          · subst hj; rw [hfin3] at hx; exact .inr (Option.some.inj hx).symm
          · exact .inl (hg2 i x hi hj (by rw [← hgo3 i hj]; exact hx))
      · intro p b e rest' x tup gs' h3 tk3 gens3 hr hkb3 hfa3 hx0 ht0 hx htu hgo3 hgI3 hfg
        have F3 := fr_keep1 F₂ hkb3 hLf
        have hfp3 := frameAt_ns F3.ns (Str.ofString "markup") hm2
        have C3 : ParseC w g t1 hp Lp D Lf I gI Ar gens0 go gs' rest'.length s₁ m₂ h3 gens3 := ⟨hks.trans (keepS_of hkb3 hfa), F3, (hgo3 go (Ne.symm hgIgo)).trans hg1, fun i x hi hj hx => hg2 i x hi hj (by rw [← hgo3 i hj]; exact hx), hgI3, hfg, hfa3, hfp3, hD2.keep hkb3 hDz, isGen_keep hI hkb3 hILf⟩
        clear F₂ hks hg1 hg2 hgI hgo2 hD2 hI hfp hbo hkb3 hfa hfa3 hgo3 hgI3 hfg
        obtain ⟨tl₃, N₃, kk₃, hl₃⟩ := ledger_keep F3
        have hxL : x ≠ Lp := by rintro rfl; obtain ⟨o, es, n, a, b, _⟩ := hfp3; rw [hx] at a; cases a; cases b
        have htL : tup ≠ Lp := by rintro rfl; obtain ⟨o, es, n, a, b, _⟩ := hfp3; rw [htu] at a; cases a; cases b
        have hxm := hl₃ _ _ hxL hx0 hx
        have htm := hl₃ _ _ htL ht0 htu
        clear hl₃ hxL htL hfp3 hx htu hx0 ht0
        have F₄ := put_fr F3 [(Str.ofString "position", .int (mark : Nat) t), (Str.ofString "markup", .str g t1), (Str.ofString "_divmod", .builtin "divmod"), (Str.ofString "_Tag", .ref 176)] (by simp [hm1, hm2, hm3, hm4])
        dsimp only [put] at F₄
        have htb := tags_mem g.length 0 (Nat.sub_le _ _) (p, b, e) (by rw [htag, hr]; simp)
        obtain ⟨-, hpg, hbb, hte⟩ := htb
        dsimp only at hpg hbb hte
        have hteg := tagEnd_gt hte
        have hbp : p ≤ b := by rw [hbb]; exact bs_ge g p
        subst hr
        refine wpAny_A (ktrTop (d + 1) (u + 3) gs (Str.ofString "_parse") _ Lp 186 _ [] (envX cn cs L a ccd cl :: outer)) (hAr.trans rfl) ?_
        k_with "getMethod ref" => first
          | ((with_reducible show wpAny _ _ (getMethod (Value.ref _) (PySem.Str.ofString "groups") _) _ _ _); refine gm_groups (by k_asm) hxm ?_)
          | ((with_reducible show wpAny _ _ (getMethod (Value.ref _) (PySem.Str.ofString "span") _) _ _ _); refine gm_span (by k_asm) (by first | exact hxm | exact List.mem_cons_of_mem _ hxm) ?_)
        k_with "call builtin:re.Match.groups" => ((refine k_groups (by k_asm) (by k_asm) hxm htm hg (by omega) (by omega) ?_); intro q9 h9 tk9 t91 t92 t93 F9 N9; (try dsimp only))
        k_with "call builtin:re.Match.span" => ((refine k_span (by k_asm) (by k_asm) (List.mem_cons_of_mem _ hxm) (List.mem_cons_of_mem _ htm) ?_); intro q8 h8 tk8 t81 t82 F8 N8; (try dsimp only))
        try k_fold
        k_steps
        try dsimp only
        refine seg_execs_cons ?_
        refine g_simple ?_
        refine wpAny_A (ktrTop (d + 1) (u + 3) gs (Str.ofString "_parse") _ Lp 186 _ [] (envX cn cs L a ccd cl :: outer)) rfl ?_
        try k_fold
        k_steps
        try dsimp only
        refine seg_execs_cons ?_
        refine g_simple ?_
        refine wpAny_A (ktrTop (d + 1) (u + 3) gs (Str.ofString "_parse") _ Lp 186 _ [] (envX cn cs L a ccd cl :: outer)) rfl ?_
        try k_fold
        k_steps
        try dsimp only
        rename_i h5 F5 N5
        have C5 := C3.step (kk₃ _ _ _ F5 N5 (fun _ h => by simp [h])) F5 (Str.ofString "markup") rfl hLf hLD hLI
        refine g_cut (ParseB w g t1 hp Lp D Lf I gI Ar gens0 go gs' p b e rest' (rowsTag g p b e) p) ?_ ?_
        · clear C3 C5 kk₃ N5 F5 hrow hn htail hm1 hm2 hm3 hm4 hxm htm
          intro n₄ s₄ s₅ hB
          obtain ⟨pre₄, m₄, h₄, tk₄, gens₄, ta, tb, tc, td, te', hrow₄, hn₄, rfl, C₄, e1, e2, e3, e4, e5, e6, e7, e8⟩ := hB
          obtain ⟨tl₄, N₄, kk₄, hl₄⟩ := ledger_keep C₄.2.1
          clear hl₄
          have F₄' := put_fr C₄.2.1 [(Str.ofString "markup", .str g t1), (Str.ofString "_divmod", .builtin "divmod"), (Str.ofString "_Tag", .ref 176), (Str.ofString "start", .int (p : Nat) ta), (Str.ofString "end", .int (e : Nat) tb), (Str.ofString "full_text", .str (sl g p e) tc), (Str.ofString "escapes", .str (sl g p b) td), (Str.ofString "tag_text", .str (sl g (b + 1) (e - 1)) te')] (by simp [e1, e2, e3, e4, e5, e6, e7, e8])
          dsimp only [put] at F₄'
          refine g_cut (ParseB w g t1 hp Lp D Lf I gI Ar gens0 go gs' p b e rest' [.tag (p + 2 * ((b - p) / 2)) (cutName (sl g (b + 1) (e - 1))) (cutVal (sl g (b + 1) (e - 1)))] (p + 2 * ((b - p) / 2))) ?_ ?_
          · clear C₄ kk₄ hrow₄ hn₄ e1 e2 e3 e4 e5 e6 e7 e8
            intro n₆ s₆ s₇ hB
            obtain ⟨pre₆, m₆, h₆, tk₆, gens₆, ta, tb, tc, td, te', hrow₆, hn₆, rfl, C₆, e1, e2, e3, e4, e5, e6, e7, e8⟩ := hB
            obtain ⟨tl₆, N₆, kk₆, hl₆⟩ := ledger_keep C₆.2.1
            clear hl₆
            have F₆' := put_fr C₆.2.1 [(Str.ofString "markup", .str g t1), (Str.ofString "_divmod", .builtin "divmod"), (Str.ofString "_Tag", .ref 176), (Str.ofString "start", .int ((p + 2 * ((b - p) / 2) : Nat)) ta), (Str.ofString "end", .int (e : Nat) tb), (Str.ofString "tag_text", .str (sl g (b + 1) (e - 1)) te')] (by simp [e1, e2, e3, e4, e5, e8])
            dsimp only [put] at F₆'
            have hlt : (sl g (b + 1) (e - 1)).length = e - 1 - (b + 1) := sl_length (by omega)
            refine seg_execs_cons ?_
            refine g_simple ?_
            refine wpAny_A (ktrTop (d + 1) (u + 3) gs (Str.ofString "_parse") _ Lp 186 _ [] (envX cn cs L a ccd cl :: outer)) rfl ?_
            try k_fold
            k_steps
            try dsimp only
            rename_i h5 F5 N5
            rw [part_cut] at F5 N5
            by_cases hfe : findEq (sl g (b + 1) (e - 1)) 0 < (sl g (b + 1) (e - 1)).length
            · rw [if_pos hfe] at F5 N5
              dsimp only at F5 N5
              have C5 := C₆.step (kk₆ _ _ _ F5 N5 (fun _ h => by simp [h])) F5 (Str.ofString "markup") rfl hLf hLD hLI
              have hz : Row.tag (p + 2 * ((b - p) / 2)) (cutName (sl g (b + 1) (e - 1))) (cutVal (sl g (b + 1) (e - 1))) = Row.tag (p + 2 * ((b - p) / 2)) (sl (sl g (b + 1) (e - 1)) 0 (findEq (sl g (b + 1) (e - 1)) 0)) (some (sl (sl g (b + 1) (e - 1)) (findEq (sl g (b + 1) (e - 1)) 0 + 1) (sl g (b + 1) (e - 1)).length)) := by unfold cutName cutVal; rw [if_pos hfe, if_pos hfe]
              rw [hz, List.singleton_append] at hrow₆ hn₆
              rw [List.length_cons] at hn₆
              subst hn₆
              k_with "truthy str" => refine KXt.truthy (b := true) (by decide) (by decide) (fun k9 => ?_)
              k_with "call ref" => ((refine call_tag (A₀ := ktrTop dp un gd cn cs L a ccd cl outer) B₁ (by k_asm) X₁ (by k_asm) T₁ (by exact rfl) (by ktr_room) ?_); intro x9 dx9 D9 h9 tk9 F9 N9; (try dsimp only))
              refine seg_execs_cons ?_
              refine seg_Expr_Yield rfl rfl rfl ?_
              refine wpAny_A (ktrTop (d + 1) (u + 3) gs (Str.ofString "_parse") _ Lp 186 _ [] (envX cn cs L a ccd cl :: outer)) rfl ?_
              try k_fold
              k_steps
              try dsimp only
              rename_i h6' F6 N6 l6 kap hkap
              have C6' := C₆.step (kk₆ _ _ _ F6 N6 (fun _ h => by simp [h])) F6 (Str.ofString "markup") rfl hLf hLD hLI
              refine ⟨pre₆, .tag (p + 2 * ((b - p) / 2)) (sl (sl g (b + 1) (e - 1)) 0 (findEq (sl g (b + 1) (e - 1)) 0)) (some (sl (sl g (b + 1) (e - 1)) (findEq (sl g (b + 1) (e - 1)) 0 + 1) (sl g (b + 1) (e - 1)).length)), _, _, h6', _, gens₆, hrow₆, rfl, rfl, rfl, C6'.1, F6.keep, ⟨_, _, x9, dx9, _, (N6 _ (.head _)).2.2, (N6 _ (.tail _ (.head _))).2.2, (N6 _ (.tail _ (.tail _ (.head _)))).2.2, N6.get (.head _), N6.get (.tail _ (.head _)), N6.get (.tail _ (.tail _ (.head _))), by unfold optStr; exact ⟨_, rfl⟩⟩, C6'.2.2.1, ?_⟩
              intro s₃ hk₃ hd₃ hg₃
              have C7 := C6'.resume hk₃ hd₃ hg₃ hhD hgIgo
              refine hkap .none s₃ ?_
              clear hkap
              dsimp only
              obtain ⟨tl₇, N₇, kk₇, hl₇⟩ := ledger_keep C7.2.1
              clear hl₇
              have F₇ := C7.2.1
              refine seg_execs_cons ?_
              refine g_simple ?_
              refine wpAny_A (ktrTop (d + 1) (u + 3) gs (Str.ofString "_parse") _ Lp 186 _ [] (envX cn cs L a ccd cl :: outer)) rfl ?_
              try k_fold
              k_steps
              try dsimp only
              rename_i h8' F8 N8
              have C8 := C7.step (kk₇ _ _ _ F8 N8 (fun _ h => h)) F8 (Str.ofString "markup") rfl hLf hLD hLI
              refine seg_execs_nil ?_
              refine seg_again rfl ?_
              exact ih _ _ _ _ (by rw [hkr, List.length_cons]; exact Nat.lt_succ_self _) (parseJ_of (pre := pre₆ ++ [.tag (p + 2 * ((b - p) / 2)) (sl (sl g (b + 1) (e - 1)) 0 (findEq (sl g (b + 1) (e - 1)) 0)) (some (sl (sl g (b + 1) (e - 1)) (findEq (sl g (b + 1) (e - 1)) 0 + 1) (sl g (b + 1) (e - 1)).length))]) (done := done ++ [(p, b, e)]) C8 (by rw [hrow₆, List.append_assoc]; rfl) (by rw [htag, List.append_assoc]; rfl) (by omega) rfl rfl rfl rfl)
            · rw [if_neg hfe] at F5 N5
              dsimp only at F5 N5
              have C5 := C₆.step (kk₆ _ _ _ F5 N5 (fun _ h => by simp [h])) F5 (Str.ofString "markup") rfl hLf hLD hLI
              have hz : Row.tag (p + 2 * ((b - p) / 2)) (cutName (sl g (b + 1) (e - 1))) (cutVal (sl g (b + 1) (e - 1))) = Row.tag (p + 2 * ((b - p) / 2)) (sl g (b + 1) (e - 1)) none := by unfold cutName cutVal; rw [if_neg hfe, if_neg hfe]
              rw [hz, List.singleton_append] at hrow₆ hn₆
              rw [List.length_cons] at hn₆
              subst hn₆
              k_with "truthy str" => refine KXt.truthy (b := false) (by decide) (by decide) (fun k9 => ?_)
              k_with "call ref" => ((refine call_tag (A₀ := ktrTop dp un gd cn cs L a ccd cl outer) B₁ (by k_asm) X₁ (by k_asm) T₁ (by exact rfl) (by ktr_room) ?_); intro x9 dx9 D9 h9 tk9 F9 N9; (try dsimp only))
              refine seg_execs_cons ?_
              refine seg_Expr_Yield rfl rfl rfl ?_
              refine wpAny_A (ktrTop (d + 1) (u + 3) gs (Str.ofString "_parse") _ Lp 186 _ [] (envX cn cs L a ccd cl :: outer)) rfl ?_
              try k_fold
              k_steps
              try dsimp only
              rename_i h6' F6 N6 l6 kap hkap
              have C6' := C₆.step (kk₆ _ _ _ F6 N6 (fun _ h => by simp [h])) F6 (Str.ofString "markup") rfl hLf hLD hLI
              refine ⟨pre₆, .tag (p + 2 * ((b - p) / 2)) (sl g (b + 1) (e - 1)) none, _, _, h6', _, gens₆, hrow₆, rfl, rfl, rfl, C6'.1, F6.keep, ⟨_, _, x9, dx9, _, (N6 _ (.head _)).2.2, (N6 _ (.tail _ (.head _))).2.2, (N6 _ (.tail _ (.tail _ (.head _)))).2.2, N6.get (.head _), N6.get (.tail _ (.head _)), N6.get (.tail _ (.tail _ (.head _))), by unfold optStr; rfl⟩, C6'.2.2.1, ?_⟩
              intro s₃ hk₃ hd₃ hg₃
              have C7 := C6'.resume hk₃ hd₃ hg₃ hhD hgIgo
              refine hkap .none s₃ ?_
              clear hkap
              dsimp only
              obtain ⟨tl₇, N₇, kk₇, hl₇⟩ := ledger_keep C7.2.1
              clear hl₇
              have F₇ := C7.2.1
              refine seg_execs_cons ?_
              refine g_simple ?_
              refine wpAny_A (ktrTop (d + 1) (u + 3) gs (Str.ofString "_parse") _ Lp 186 _ [] (envX cn cs L a ccd cl :: outer)) rfl ?_
              try k_fold
              k_steps
              try dsimp only
              rename_i h8' F8 N8
              have C8 := C7.step (kk₇ _ _ _ F8 N8 (fun _ h => h)) F8 (Str.ofString "markup") rfl hLf hLD hLI
              refine seg_execs_nil ?_
              refine seg_again rfl ?_
              exact ih _ _ _ _ (by rw [hkr, List.length_cons]; exact Nat.lt_succ_self _) (parseJ_of (pre := pre₆ ++ [.tag (p + 2 * ((b - p) / 2)) (sl g (b + 1) (e - 1)) none]) (done := done ++ [(p, b, e)]) C8 (by rw [hrow₆, List.append_assoc]; rfl) (by rw [htag, List.append_assoc]; rfl) (by omega) rfl rfl rfl rfl)
          · intro htl₂
            have hlx : (sl g p b).length = b - p := sl_length (by omega)
            k_with "truthy str" => ((refine truthy_two (by rw [hlx]; omega) (fun hz9 k9 => ?_) (fun hz9 k9 => ?_)) <;> dsimp only)
            refine g_If ?_
            refine wpAny_A (ktrTop (d + 1) (u + 3) gs (Str.ofString "_parse") _ Lp 186 _ [] (envX cn cs L a ccd cl :: outer)) rfl ?_
            try k_fold
            k_steps
            try dsimp only
            rotate_left
            · rw [hlx] at hz9
              refine seg_execs_cons ?_
              refine g_simple ?_
              refine wpAny_A (ktrTop (d + 1) (u + 3) gs (Str.ofString "_parse") _ Lp 186 _ [] (envX cn cs L a ccd cl :: outer)) rfl ?_
              try k_fold
              k_steps
              try dsimp only
              rename_i h5 F5 N5
              have hq : ((sl g p b).length : Int).fdiv 2 = (((b - p) / 2 : Nat) : Int) := by rw [hlx, Int.fdiv_eq_ediv_of_nonneg _ (by decide)]; omega
              have hr : ((sl g p b).length : Int).fmod 2 = (((b - p) % 2 : Nat) : Int) := by rw [hlx, Int.fmod_eq_emod_of_nonneg _ (by decide)]; omega
              rw [hq, hr] at F5 N5
              have C5 := C₄.step (kk₄ _ _ _ F5 N5 (fun _ h => .tail _ h)) F5 (Str.ofString "markup") rfl hLf hLD hLI
              have hrt : rowsTag g p b e = (if 2 ≤ b - p then [.txt p (bsl ((b - p) / 2))] else []) ++ [lastRow g p b e] := rfl
              rw [hrt] at hrow₄ hn₄
              refine g_cut (ParseE w g t1 hp Lp D Lf I gI Ar gens0 go gs' p b e rest' [lastRow g p b e] (p + 2 * ((b - p) / 2)) ((b - p) % 2)) ?_ ?_
              · clear C5 C₄ kk₄ N5 F5 hrow₄ hn₄ e1 e2 e3 e4 e5 e6 e7 e8
                intro n₆ s₆ s₇ hB
                obtain ⟨pre₆, m₆, h₆, tk₆, gens₆, ta, tb, tc, td, te', tf, hrow₆, hn₆, rfl, C₆, e1, e2, e3, e4, e5, e6, e7, e8, e9⟩ := hB
                obtain ⟨tl₆, N₆, kk₆, hl₆⟩ := ledger_keep C₆.2.1
                clear hl₆
                have F₆' := put_fr C₆.2.1 [(Str.ofString "markup", .str g t1), (Str.ofString "_divmod", .builtin "divmod"), (Str.ofString "_Tag", .ref 176), (Str.ofString "start", .int ((p + 2 * ((b - p) / 2) : Nat)) ta), (Str.ofString "end", .int (e : Nat) tb), (Str.ofString "full_text", .str (sl g p e) tc), (Str.ofString "escapes", .str (sl g p b) td), (Str.ofString "tag_text", .str (sl g (b + 1) (e - 1)) te'), (Str.ofString "escaped", .int (((b - p) % 2 : Nat)) tf)] (by simp [e1, e2, e3, e4, e5, e6, e7, e8, e9])
                dsimp only [put] at F₆'
                have hle : (sl g p e).length = e - p := sl_length (by omega)
                refine seg_execs_cons ?_
                refine g_If ?_
                refine wpAny_A (ktrTop (d + 1) (u + 3) gs (Str.ofString "_parse") _ Lp 186 _ [] (envX cn cs L a ccd cl :: outer)) rfl ?_
                try k_fold
                k_steps
                try dsimp only
                · have hz : lastRow g p b e = .txt (p + 2 * ((b - p) / 2)) (sl g b e) := if_pos (by omega)
                  rw [hz] at hrow₆ hn₆
                  rw [List.singleton_append] at hrow₆ hn₆
                  rw [List.length_cons] at hn₆
                  subst hn₆
                  refine seg_execs_cons ?_
                  refine seg_Expr_Yield rfl rfl rfl ?_
                  refine wpAny_A (ktrTop (d + 1) (u + 3) gs (Str.ofString "_parse") _ Lp 186 _ [] (envX cn cs L a ccd cl :: outer)) rfl ?_
                  try k_fold
                  k_steps
                  try dsimp only
                  rename_i h6' F6 N6 l6 kap hkap
                  rw [slice_from (by omega) (by rw [hle, hlx]; omega), Int.toNat_natCast, hle, hlx, sl_sl hbp (by omega) (by omega)] at N6
                  have C6' := C₆.step (kk₆ _ _ _ F6 N6 (fun _ h => by simp [h])) F6 (Str.ofString "markup") rfl hLf hLD hLI
                  refine ⟨pre₆, .txt (p + 2 * ((b - p) / 2)) (sl g b e), _, _, h6', _, gens₆, hrow₆, rfl, rfl, rfl, C6'.1, F6.keep, ⟨_, _, (N6 _ (.head _)).2.2, N6.get (.head _)⟩, C6'.2.2.1, ?_⟩
                  intro s₃ hk₃ hd₃ hg₃
                  have C7 := C6'.resume hk₃ hd₃ hg₃ hhD hgIgo
                  refine hkap .none s₃ ?_
                  clear hkap
                  dsimp only
                  obtain ⟨tl₇, N₇, kk₇, hl₇⟩ := ledger_keep C7.2.1
                  clear hl₇
                  have F₇ := C7.2.1
                  refine seg_execs_cons ?_
                  refine g_simple ?_
                  refine wpAny_A (ktrTop (d + 1) (u + 3) gs (Str.ofString "_parse") _ Lp 186 _ [] (envX cn cs L a ccd cl :: outer)) rfl ?_
                  try k_fold
                  k_steps
                  try dsimp only
                  rename_i h8' F8 N8
                  have C8 := C7.step (kk₇ _ _ _ F8 N8 (fun _ h => h)) F8 (Str.ofString "markup") rfl hLf hLD hLI
                  refine seg_execs_cons ?_
                  refine g_simple ?_
                  refine wpAny_A (ktrTop (d + 1) (u + 3) gs (Str.ofString "_parse") _ Lp 186 _ [] (envX cn cs L a ccd cl :: outer)) rfl ?_
                  try k_fold
                  k_steps
                  try dsimp only
                  refine seg_again rfl ?_
                  exact ih _ _ _ _ (by rw [hkr, List.length_cons]; exact Nat.lt_succ_self _) (parseJ_of (pre := pre₆ ++ [.txt (p + 2 * ((b - p) / 2)) (sl g b e)]) (done := done ++ [(p, b, e)]) C8 (by rw [hrow₆, List.append_assoc]; rfl) (by rw [htag, List.append_assoc]; rfl) (by omega) rfl rfl rfl rfl)
                · have hz : lastRow g p b e = .tag (p + 2 * ((b - p) / 2)) (cutName (sl g (b + 1) (e - 1))) (cutVal (sl g (b + 1) (e - 1))) := if_neg (by omega)
                  rw [hz] at hrow₆ hn₆
                  refine seg_execs_nil ?_
                  refine seg_execs_nil ?_
                  exact htl₂ _ _ _ ⟨pre₆, _, h₆, _, gens₆, ta, tb, tc, td, te', hrow₆, hn₆, rfl, C₆, e1, e2, e3, e4, e5, e6, e7, e8⟩
              · intro htl₃
                refine g_If ?_
                refine wpAny_A (ktrTop (d + 1) (u + 3) gs (Str.ofString "_parse") _ Lp 186 _ [] (envX cn cs L a ccd cl :: outer)) rfl ?_
                try k_fold
                k_steps
                try dsimp only
                · refine seg_execs_cons ?_
                  have hz : 2 ≤ b - p := by omega
                  rw [if_pos hz] at hrow₄ hn₄
                  rw [List.append_assoc, List.singleton_append, List.length_cons] at hn₄
                  rw [List.append_assoc, List.singleton_append] at hrow₄
                  subst hn₄
                  refine seg_Expr_Yield rfl rfl rfl ?_
                  refine wpAny_A (ktrTop (d + 1) (u + 3) gs (Str.ofString "_parse") _ Lp 186 _ [] (envX cn cs L a ccd cl :: outer)) rfl ?_
                  try k_fold
                  k_steps
                  try dsimp only
                  rename_i h6' F6 N6 l6 kap hkap
                  rw [mul_eq (by omega), Int.toNat_natCast] at N6
                  have C6 := C₄.step (kk₄ _ _ _ F6 N6 (fun _ h => by simp [h])) F6 (Str.ofString "markup") rfl hLf hLD hLI
                  refine ⟨pre₄, .txt p (bsl ((b - p) / 2)), _, _, h6', _, gens₄, hrow₄, rfl, rfl, rfl, C6.1, F6.keep, ⟨_, _, (N6 _ (.head _)).2.2, N6.get (.head _)⟩, C6.2.2.1, ?_⟩
                  intro s₃ hk₃ hd₃ hg₃
                  have C7 := C6.resume hk₃ hd₃ hg₃ hhD hgIgo
                  refine hkap .none s₃ ?_
                  clear hkap
                  dsimp only
                  obtain ⟨tl₇, N₇, kk₇, hl₇⟩ := ledger_keep C7.2.1
                  clear hl₇
                  have F₇ := C7.2.1
                  refine seg_execs_cons ?_
                  refine g_simple ?_
                  refine wpAny_A (ktrTop (d + 1) (u + 3) gs (Str.ofString "_parse") _ Lp 186 _ [] (envX cn cs L a ccd cl :: outer)) rfl ?_
                  try k_fold
                  k_steps
                  try dsimp only
                  rename_i h8' F8 N8
                  have C8 := C7.step (kk₇ _ _ _ F8 N8 (fun _ h => h)) F8 (Str.ofString "markup") rfl hLf hLD hLI
                  refine seg_execs_nil ?_
                  exact htl₃ _ _ _ ⟨pre₄ ++ [.txt p (bsl ((b - p) / 2))], _, h8', _, s₃.gens, _, tb, tc, td, te', _, by rw [hrow₄, List.append_assoc]; rfl, rfl, rfl, C8, rfl, rfl, rfl, by show some (Value.int _ _) = _; congr 2; omega, rfl, rfl, rfl, rfl, rfl⟩
                · have hz : ¬ 2 ≤ b - p := by omega
                  rw [if_neg hz, List.nil_append] at hrow₄ hn₄
                  refine seg_execs_nil ?_
                  have hst : p + 2 * ((b - p) / 2) = p := by omega
                  exact htl₃ _ _ _ ⟨pre₄, _, h5, _, gens₄, ta, tb, tc, td, te', _, hrow₄, hn₄, rfl, C5, rfl, rfl, rfl, by rw [hst]; rfl, rfl, rfl, rfl, rfl, rfl⟩
            · rw [hlx] at hz9
              refine seg_execs_nil ?_
              have hrt : rowsTag g p b e = [.tag (p + 2 * ((b - p) / 2)) (cutName (sl g (b + 1) (e - 1))) (cutVal (sl g (b + 1) (e - 1)))] := by
                unfold rowsTag
                rw [if_neg (by omega), if_neg (by omega)]; rfl
              have hst : p + 2 * ((b - p) / 2) = p := by omega
              rw [hrt] at hrow₄ hn₄
              exact htl₂ _ _ _ ⟨pre₄, _, h₄, _, gens₄, ta, tb, tc, td, te', hrow₄, hn₄, rfl, C₄, e1, e2, e3, by rw [hst]; exact e4, e5, e6, e7, e8⟩
        · intro htl
          refine g_If ?_
          refine wpAny_A (ktrTop (d + 1) (u + 3) gs (Str.ofString "_parse") _ Lp 186 _ [] (envX cn cs L a ccd cl :: outer)) rfl ?_
          try k_fold
          k_steps
          try dsimp only
          · have hz : rows g mark ((p, b, e) :: rest') = .txt p (sl g mark p) :: (rowsTag g p b e ++ rows g e rest') := by
              show rowsHead g mark p ++ _ = _
              unfold rowsHead; rw [if_pos (by omega)]; rfl
            rw [hz, List.length_cons] at hn
            subst hn
            refine seg_execs_cons ?_
            refine seg_Expr_Yield rfl rfl rfl ?_
            refine wpAny_A (ktrTop (d + 1) (u + 3) gs (Str.ofString "_parse") _ Lp 186 _ [] (envX cn cs L a ccd cl :: outer)) rfl ?_
            try k_fold
            k_steps
            try dsimp only
            rename_i h6' F6 N6 l6 kap hkap
            rw [slice_mid (by omega) (by omega) (by omega), Int.toNat_natCast, Int.toNat_natCast] at N6
            have C6 := C3.step (kk₃ _ _ _ F6 N6 (fun _ h => by simp [h])) F6 (Str.ofString "markup") rfl hLf hLD hLI
            refine ⟨pre, .txt p (sl g mark p), _, _, h6', _, gens3, by rw [hrow, hz], rfl, rfl, rfl, C6.1, F6.keep, ⟨_, _, (N6 _ (.head _)).2.2, N6.get (.head _)⟩, C6.2.2.1, ?_⟩
            intro s₃ hk₃ hd₃ hg₃
            have C7 := C6.resume hk₃ hd₃ hg₃ hhD hgIgo
            refine hkap .none s₃ ?_
            clear hkap
            dsimp only
            refine seg_execs_nil ?_
            exact htl _ s₃ s₃ ⟨pre ++ [.txt p (sl g mark p)], _, s₃.heap, s₃.toks, s₃.gens, _, _, _, _, _, by rw [hrow, hz, List.append_assoc]; rfl, rfl, rfl, C7, rfl, rfl, rfl, rfl, rfl, rfl, rfl, rfl⟩
          · have hz : rows g mark ((p, b, e) :: rest') = rowsTag g p b e ++ rows g e rest' := by
              show rowsHead g mark p ++ _ = _
              unfold rowsHead; rw [if_neg (by omega)]; rfl
            refine seg_execs_nil ?_
            exact htl _ _ _ ⟨pre, _, h5, _, gens3, _, _, _, _, _, by rw [hrow, hz], by rw [hn, hz], rfl, C5, rfl, rfl, rfl, rfl, rfl, rfl, rfl, rfl⟩
    · simp [Array.getElem?_push, Nat.ne_of_lt hgo]
    · intro i x hi hj hx
      refine hgens i x hi ?_
      rw [Array.getElem?_push, if_neg (by rw [hgIe]; exact hj)] at hx
      exact hx
    · rw [← hgIe]; exact Array.getElem?_push_size ..
    · intro s3 hk3 hb3
      exact ⟨rfl, hi7 _ _ _ _ s3 (show d + 1 + 20 < _ by omega) hk3 hb3⟩
    · obtain ⟨o, es, k, e1, e2⟩ := hD6
      exact ⟨o, es, k, hk7 _ _ e1, e2⟩
end Mine
end
section
open PySem PySem.W PyProof.Rows in
theorem Mine.fresh_L1 : True := by
  k_with_none
  w_top off
  trivial
open PySem PySem.W PyProof.Rows PySem.Calls
set_option maxRecDepth 100000
namespace Mine
theorem handed_opt {v : Value} {o : Option Str} (h : optStr v o) : handedIn v = true := by
  rcases optStr_cases h with ⟨rfl, rfl⟩ | ⟨u, t, rfl, rfl⟩ <;> rfl
set_option maxRecDepth 100000 in
set_option maxHeartbeats 8000000 in
theorem c_told_txt {w : World} {mean : ExcName → Option Value} {mg mb : Str → Option Value} {dp un : Nat} {gd : Option (List Code)} {cn : Str} {cs : Scope} {a : Addr} {ccd : Value} {cl : List (Str × Addr)} {outer : List Env} {A₀ : Around} {base h₀ : Heap} {L : Addr} {m : Str → Option Value} {news : List (Addr × Obj)} {s : Shared} {Q E : Value → Shared → Prop} {p : Nat} {t : Str} {t1 t2 : Tok} {x : Addr} (B : Below A₀ base outer h₀) (F : Fr h₀ L s.heap m) (X : (Mine.hd.heap_39 w.params).In h₀) (N : News h₀ L s.heap news)
    (T : Top Mine.hd.view_39 (looseW Mine.hd.view_39 [Str.ofString "_tuplegetter", Str.ofString "RE_TAGS", Str.ofString "Tag"]) mean mg mb h₀) (hk : cs.kind = .function) (hx : (x, ({ cls := .type "tuple", data := .seq #[.int (p : Nat) t1, .str t t2, .none] } : Obj)) ∈ news) (hd : dp + 40 < recursionLimit)
    (hret : ∀ D h' tk', Fr h₀ L h' m → News h₀ L h' ((D, ({ cls := .type "tuple", data := .seq #[.int (p : Nat) t1, .str t t2, .none, .none, .none] } : Obj)) :: news) → (∀ q ∈ news, q.1 < D) → Q (.ref D) { s with heap := h', toks := tk' }) :
    wpAny (model PySem.Challenge.rw_ff5019_01.row.prog w) (ktrTop dp un gd cn cs L a ccd cl outer) (call (.ref 226) [.ref x]) Q E s := by
  revert X; k_fill; intro X
  refine wpAny_call ?_
  k_dflt cell_enter
  k_steps
  all_goals exact hret _ _ _ (by assumption) (by assumption) (by assumption)
set_option maxRecDepth 100000 in
set_option maxHeartbeats 8000000 in
theorem c_told_tag {w : World} {mean : ExcName → Option Value} {mg mb : Str → Option Value} {dp un : Nat} {gd : Option (List Code)} {cn : Str} {cs : Scope} {a : Addr} {ccd : Value} {cl : List (Str × Addr)} {outer : List Env} {A₀ : Around} {base h₀ : Heap} {L : Addr} {m : Str → Option Value} {news : List (Addr × Obj)} {s : Shared} {Q E : Value → Shared → Prop} {p : Nat} {n : Str} {o : Option Str} {v : Value} {t1 t3 : Tok} {x tx dx : Addr} (B : Below A₀ base outer h₀) (F : Fr h₀ L s.heap m) (X : (Mine.hd.heap_39 w.params).In h₀) (N : News h₀ L s.heap news)
    (T : Top Mine.hd.view_39 (looseW Mine.hd.view_39 [Str.ofString "_tuplegetter", Str.ofString "RE_TAGS", Str.ofString "Tag"]) mean mg mb h₀) (hk : cs.kind = .function) (hx : (x, ({ cls := .type "tuple", data := .seq #[.int (p : Nat) t1, .none, .ref tx] } : Obj)) ∈ news)
    (htx : (tx, tagO n t3 v dx) ∈ news) (hdx : (dx, noDict) ∈ news) (hn : n.length ≤ 1048576) (hv : optStr v o) (ho : ∀ u, o = some u → u.length ≤ 1048576) (hd : dp + 40 < recursionLimit)
    (hret : ∀ D h' tk' t4, Fr h₀ L h' m → News h₀ L h' ((D, ({ cls := .type "tuple", data := .seq #[.int (p : Nat) t1, .none, .str n t3, v, .str (own n o) t4] } : Obj)) :: news) → (∀ q ∈ news, q.1 < D) → Q (.ref D) { s with heap := h', toks := tk' }) :
    wpAny (model PySem.Challenge.rw_ff5019_01.row.prog w) (ktrTop dp un gd cn cs L a ccd cl outer) (call (.ref 226) [.ref x]) Q E s := by
  have hhi := handed_opt hv
  revert X; k_fill; intro X
  refine wpAny_call ?_
  k_dflt cell_enter
  k_with "getAttr ref" => first
    | ((with_reducible show wpAny _ _ (getAttr (Value.ref _) (PySem.Str.ofString "name") _) _ _ _); (refine get_name (by k_asm) (by k_asm) (by k_asm) (by k_asm) (by k_asm) (by exact rfl) htx hdx (by ktr_room) ?_); intro h9 tk9 F9 N9; (try dsimp only))
    | ((with_reducible show wpAny _ _ (getAttr (Value.ref _) (PySem.Str.ofString "parameters") _) _ _ _); (refine get_par (by k_asm) (by k_asm) (by k_asm) (by k_asm) (by k_asm) (by exact rfl) htx hdx (by ktr_room) hhi ?_); intro h9 tk9 F9 N9; (try dsimp only))
    | ((with_reducible show wpAny _ _ (getAttr (Value.ref _) (PySem.Str.ofString "markup") _) _ _ _); (refine get_markup (by k_asm) (by k_asm) (by k_asm) (by k_asm) (by k_asm) (by exact rfl) htx hdx hn hv ho (by ktr_room) ?_); intro h9 tk9 t9 F9 N9; (try dsimp only))
  k_steps
  all_goals exact hret _ _ _ _ (by assumption) (by assumption) (by assumption)
set_option maxRecDepth 100000 in
set_option maxHeartbeats 8000000 in
theorem c_read0 {w : World} {mean : ExcName → Option Value} {mg mb : Str → Option Value} {dp un : Nat} {gd : Option (List Code)} {cn : Str} {cs : Scope} {a : Addr} {ccd : Value} {cl : List (Str × Addr)} {outer : List Env} {A₀ : Around} {base h₀ : Heap} {L : Addr} {m : Str → Option Value} {news : List (Addr × Obj)} {s : Shared} {Q E : Value → Shared → Prop} {n : Str} {t3 : Tok} {tx dx : Addr} (B : Below A₀ base outer h₀) (F : Fr h₀ L s.heap m) (X : (Mine.hd.heap_39 w.params).In h₀) (N : News h₀ L s.heap news)
    (T : Top Mine.hd.view_39 (looseW Mine.hd.view_39 [Str.ofString "_tuplegetter", Str.ofString "RE_TAGS", Str.ofString "Tag"]) mean mg mb h₀) (hk : cs.kind = .function)
    (htx : (tx, tagO n t3 .none dx) ∈ news) (hdx : (dx, noDict) ∈ news) (hn : n.length ≤ 1048576) (hd : dp + 40 < recursionLimit)
    (hret : ∀ h' tk' t4, Fr h₀ L h' m → News h₀ L h' news → Q (.str n t4) { s with heap := h', toks := tk' }) :
    wpAny (model PySem.Challenge.rw_ff5019_01.row.prog w) (ktrTop dp un gd cn cs L a ccd cl outer) (call (.ref 233) [.ref tx]) Q E s := by
  have hhi : handedIn .none = true := rfl
  revert X; k_fill; intro X
  refine wpAny_call ?_
  k_dflt cell_enter
  k_with "getAttr ref" => first
    | ((with_reducible show wpAny _ _ (getAttr (Value.ref _) (PySem.Str.ofString "name") _) _ _ _); (refine get_name (by k_asm) (by k_asm) (by k_asm) (by k_asm) (by k_asm) (by exact rfl) htx hdx (by ktr_room) ?_); intro h9 tk9 F9 N9; (try dsimp only))
    | ((with_reducible show wpAny _ _ (getAttr (Value.ref _) (PySem.Str.ofString "parameters") _) _ _ _); (refine get_par (by k_asm) (by k_asm) (by k_asm) (by k_asm) (by k_asm) (by exact rfl) htx hdx (by ktr_room) hhi ?_); intro h9 tk9 F9 N9; (try dsimp only))
  k_steps
  all_goals exact hret _ _ _ (by assumption) (by assumption)
set_option maxRecDepth 100000 in
set_option maxHeartbeats 8000000 in
theorem c_read1 {w : World} {mean : ExcName → Option Value} {mg mb : Str → Option Value} {dp un : Nat} {gd : Option (List Code)} {cn : Str} {cs : Scope} {a : Addr} {ccd : Value} {cl : List (Str × Addr)} {outer : List Env} {A₀ : Around} {base h₀ : Heap} {L : Addr} {m : Str → Option Value} {news : List (Addr × Obj)} {s : Shared} {Q E : Value → Shared → Prop} {n u : Str} {t3 t5 : Tok} {tx dx : Addr} (B : Below A₀ base outer h₀) (F : Fr h₀ L s.heap m) (X : (Mine.hd.heap_39 w.params).In h₀) (N : News h₀ L s.heap news)
    (T : Top Mine.hd.view_39 (looseW Mine.hd.view_39 [Str.ofString "_tuplegetter", Str.ofString "RE_TAGS", Str.ofString "Tag"]) mean mg mb h₀) (hk : cs.kind = .function)
    (htx : (tx, tagO n t3 (.str u t5) dx) ∈ news) (hdx : (dx, noDict) ∈ news) (hn : n.length ≤ 1048576) (hu : u.length ≤ 1048576) (hd : dp + 40 < recursionLimit)
    (hret : ∀ h' tk' t4, Fr h₀ L h' m → News h₀ L h' news → Q (.str (n ++ Str.ofString " " ++ u) t4) { s with heap := h', toks := tk' }) :
    wpAny (model PySem.Challenge.rw_ff5019_01.row.prog w) (ktrTop dp un gd cn cs L a ccd cl outer) (call (.ref 233) [.ref tx]) Q E s := by
  have hhi : handedIn (.str u t5) = true := rfl
  revert X; k_fill; intro X
  refine wpAny_call ?_
  k_dflt cell_enter
  k_with "getAttr ref" => first
    | ((with_reducible show wpAny _ _ (getAttr (Value.ref _) (PySem.Str.ofString "name") _) _ _ _); (refine get_name (by k_asm) (by k_asm) (by k_asm) (by k_asm) (by k_asm) (by exact rfl) htx hdx (by ktr_room) ?_); intro h9 tk9 F9 N9; (try dsimp only))
    | ((with_reducible show wpAny _ _ (getAttr (Value.ref _) (PySem.Str.ofString "parameters") _) _ _ _); (refine get_par (by k_asm) (by k_asm) (by k_asm) (by k_asm) (by k_asm) (by exact rfl) htx hdx (by ktr_room) hhi ?_); intro h9 tk9 F9 N9; (try dsimp only))
  k_steps
  all_goals exact hret _ _ _ (by assumption) (by assumption)
end Mine
end
section
open PySem PySem.W PyProof.Rows in
theorem Mine.fresh_L2 : True := by
  k_with_none
  w_top off
  trivial
open PySem PySem.W PyProof.Rows PySem.Calls
set_option maxRecDepth 100000
namespace Mine
abbrev listAt (acc : Array Value) (c : Nat) : Obj := { cls := .type "list", dict := none, data := .seq acc c, slots := #[] }
section
variable {prog : Program} {w : World} {A : Around} {R : Result → Shared → Prop} {I S : Addr} {res : Value}
theorem drain_loop (Inv : Nat → Array Value → Shared → Prop) (hsz : ∀ k acc s, Inv k acc s → acc.size + k ≤ sizeLine)
    (hnext : ∀ k acc s, Inv k acc s → wpAny (model prog w) A.in1 (pyNext (.ref I)) (fun o s' => match o with
      | none => R (.ok (.ret res)) s'
      | some v => ∃ k' c, k = k' + 1 ∧ s'.heap.get? S = some (listAt acc c) ∧ ∀ h' c', h'.get? S = some (listAt (acc.push v) c') → (∀ b o, b ≠ S → s'.heap.get? b = some o → h'.get? b = some o) → Inv k' (acc.push v) { s' with heap := h' }) (fun _ _ => False) s) :
    ∀ k acc s, Inv k acc s → codeAny (model prog w) A (.builtin "list.extend.loop" ⟨[.ref S, .ref I, res], []⟩) R s := by
  intro k
  induction k with
  | zero =>
    intro acc s hi
    refine codeAny_builtin F.entry_extend_loop ?_
    rw [Around.under_plainId F.plain_extend_loop _]
    show wpAny _ A.in1 (pyNext (.ref I) >>= _) _ _ s
    refine wpAny_bind (wpAny_mono (hnext 0 acc s hi) (fun o s' ho => ?_) fun _ _ e => e.elim)
    cases o with
    | none => exact wpAny_pure ho
    | some v => obtain ⟨k', c, hk, _⟩ := ho; cases hk
  | succ k ih =>
    intro acc s hi
    refine codeAny_builtin F.entry_extend_loop ?_
    rw [Around.under_plainId F.plain_extend_loop _]
    show wpAny _ A.in1 (pyNext (.ref I) >>= _) _ _ s
    refine wpAny_bind (wpAny_mono (hnext (k + 1) acc s hi) (fun o s' ho => ?_) fun _ _ e => e.elim)
    have hz := hsz _ _ _ hi
    cases o with
    | none => exact wpAny_pure ho
    | some v =>
      obtain ⟨k', c, hk, hS', hn⟩ := ho
      cases hk
      show wpAny _ A.in1 (updateSeq S (·.push v) >>= _) _ _ _
      refine wpAny_bind ?_
      refine wpAny_updateSeq hS' rfl (wpAny_pure ⟨plainId_quiet F.plain_extend_loop _, ih (acc.push v) _ (hn _ _ (Heap.get?_update_self _ hS' rfl) fun b o hb e => (Heap.get?_update_other _ _ (Ne.symm hb)).trans e)⟩)
        (by omega) (by show (acc.push v).size ≤ sizeLine + 1; rw [Array.size_push]; omega)
end
section
variable {prog : Program} {w : World} {A : Around} {E : Value → Shared → Prop} {s : Shared} {I : Addr} {gI : Nat}
theorem list_gen {Q : Value → Shared → Prop} (hI : s.heap.IsGen I gI) (Inv : Nat → Array Value → Shared → Prop) (N : Nat) (hsz : ∀ k acc s, Inv k acc s → acc.size + k ≤ sizeLine)
    (h0 : ∀ h' c, h'.get? s.heap.objs.size = some (listAt #[] c) → (∀ b o, s.heap.get? b = some o → h'.get? b = some o) → Inv N #[] { s with heap := h' })
    (hnext : ∀ k acc s', Inv k acc s' → wpAny (model prog w) A.in1.in1 (pyNext (.ref I)) (fun o s' => match o with
      | none => Q (.ref s.heap.objs.size) s'
      | some v => ∃ k' c, k = k' + 1 ∧ s'.heap.get? s.heap.objs.size = some (listAt acc c) ∧ ∀ h' c', h'.get? s.heap.objs.size = some (listAt (acc.push v) c') → (∀ b o, b ≠ s.heap.objs.size → s'.heap.get? b = some o → h'.get? b = some o) → Inv k' (acc.push v) { s' with heap := h' }) (fun _ _ => False) s') :
    wpAny (model prog w) A (call (.type "list") [.ref I]) Q E s := by
  have hIS : s.heap.objs.size ≠ I := by obtain ⟨o, _, _, ho, _⟩ := hI; exact Nat.ne_of_gt (Heap.lt_size ho)
  refine callType_codes (Q₁ := fun obj s₁ => obj = .ref s.heap.objs.size ∧ s₁ = { s with heap := s.heap.push { cls := .type "list", data := .seq #[] } }) F.called_list (F.typeCall_list_1 _) F.entry_list_init
    (code_list_new _ ⟨rfl, rfl⟩) fun obj s₁ h₁ => ?_
  obtain ⟨rfl, rfl⟩ := h₁
  have hS : (s.heap.push { cls := .type "list", data := .seq #[] }).get? s.heap.objs.size = some { cls := .type "list", data := .seq #[] } := Heap.get?_push_size _ rfl
  refine ⟨⟨_, hS, rfl⟩, F.args_list_init_2 _ _, ?_⟩
  generalize hSe : s.heap.objs.size = S at hS hIS h0 hnext ⊢
  show wpAny _ _ (do let old ← Builtin.List.listItems (.ref S); Builtin.List.listUpdate (.ref S) (fun _ => #[]); letGo old.toList.reverse; Builtin.List.listExtendWith (.ref S) (.ref I) .none) _ _ _
  refine wpAny_bind ?_
  unfold Builtin.List.listItems
  refine wpAny_bind (wpAny_seqItems hS rfl (wpAny_pure ?_))
  show wpAny _ _ (updateSeq S (fun _ => #[]) >>= fun _ => letGo (#[] : Array Value).toList.reverse >>= fun _ => Builtin.List.listExtendWith (.ref S) (.ref I) .none) _ _ _
  refine wpAny_bind (wpAny_updateSeq hS rfl ?_)
  have hS₂ := Heap.get?_update_self (Obj.mapSeq (fun _ => (#[] : Array Value))) hS rfl
  have k2 : ∀ b o, s.heap.get? b = some o → ((s.heap.push { cls := .type "list", data := .seq #[] }).update S (Obj.mapSeq (fun _ => (#[] : Array Value)))).get? b = some o := fun b o e =>
    (Heap.get?_update_other _ _ (by rw [← hSe]; exact Nat.ne_of_gt (Heap.lt_size e))).trans (Heap.get?_push_of_some _ e)
  refine wpAny_bind (wpAny_letGo ?_)
  generalize (s.heap.push { cls := .type "list", data := .seq #[] }).update S (Obj.mapSeq (fun _ => (#[] : Array Value))) = h2 at hS₂ k2 ⊢
  have hg2 : h2.IsGen I gI := hI.keeps k2
  unfold Builtin.List.listExtendWith
  refine wpAny_bind (wpAny_typeOf (T := "generator") (Heap.IsGen.typeIs (s := { s with heap := h2 }) hg2) ?_)
  have h1 : Builtin.List.listSameRef (.ref S) (.ref I) = false := by simp [Builtin.List.listSameRef, hIS]
  have h3 : (Value.type "generator" == Value.type "list") = false := by decide
  have h4 : (Value.type "generator" == Value.type "tuple") = false := by decide
  simp only [h1, h3, h4, Bool.or_false, Bool.false_eq_true, if_false]
  refine wpAny_bind (wpAny_pyIter_gen hg2 ?_)
  refine wpAny_bind (wpAny_holding ?_)
  unfold Builtin.List.listLengthHint
  refine wpAny_bind (wpAny_specialOf (T := "generator") (Heap.IsGen.typeIs (s := { s with heap := h2 }) hg2) F.gen_no_len ?_)
  show wpAny _ _ (specialOf (Value.ref I) (Str.ofString "__length_hint__") >>= _) _ _ _
  refine wpAny_bind (wpAny_specialOf (T := "generator") (Heap.IsGen.typeIs (s := { s with heap := h2 }) hg2) F.gen_no_hint ?_)
  refine wpAny_pure ?_
  show wpAny _ _ (rule "list.extend.makes-room" >>= fun _ => Builtin.List.listTouch (.ref S) >>= fun _ => again (.builtin "list.extend.loop" ⟨[.ref S, .ref I, .none], []⟩)) _ _ _
  refine wpAny_bind (wpAny_rule ?_)
  refine wpAny_bind ?_
  show wpAny _ _ (updateSeq S (·.push .none) >>= fun _ => updateSeq S (·.pop)) _ _ _
  refine wpAny_bind (wpAny_updateSeq hS₂ rfl ?_)
  have hS₃ := Heap.get?_update_self (Obj.mapSeq (·.push Value.none)) hS₂ rfl
  refine wpAny_updateSeq hS₃ rfl ?_
  have hS₄ := Heap.get?_update_self (Obj.mapSeq (·.pop)) hS₃ rfl
  have k4 : ∀ b o, s.heap.get? b = some o → ((h2.update S (Obj.mapSeq (·.push Value.none))).update S (Obj.mapSeq (·.pop))).get? b = some o := fun b o e =>
    have hb : S ≠ b := by rw [← hSe]; exact Nat.ne_of_gt (Heap.lt_size e)
    (Heap.get?_update_other _ _ hb).trans ((Heap.get?_update_other _ _ hb).trans (k2 b o e))
  refine wpAny_pure ⟨plainId_quiet F.plain_extend_loop _, drain_loop Inv hsz (fun k acc s' hi => wpAny_mono (hnext k acc s' hi) (fun o s'' ho => ?_) fun _ _ e => e) N #[] _ (h0 _ _ hS₄ k4)⟩
  cases o with
  | none => exact ⟨rfl, ho⟩
  | some v => exact ho
end
end Mine
end
section
open PySem PySem.W PyProof.Rows in
theorem Mine.fresh_L3 : True := by
  k_with_none
  w_top off
  trivial
open PySem PySem.W PyProof.Rows PySem.Calls
set_option maxRecDepth 100000
namespace Mine
def RowsAt (h₀ h : Heap) : List Value → List Row → Prop
  | [], [] => True
  | v :: vs, r :: rs => (∃ x, v = .ref x ∧ RowAt h₀ h x r) ∧ RowsAt h₀ h vs rs
  | _, _ => False
theorem ne_tl : (Value.type "tuple") ≠ .type "list" := fun q => absurd (Value.type.inj q) (by decide)
theorem ne_dl : (Value.type "dict") ≠ .type "list" := fun q => absurd (Value.type.inj q) (by decide)
theorem RowAt.keep {h₀ h h' : Heap} {x : Addr} {r : Row} (a : RowAt h₀ h x r) (k : ∀ b o, h₀.get? b = none → (∀ es k, o.data = .dict es k → es = #[]) → o.cls ≠ .type "list" → h.get? b = some o → h'.get? b = some o) : RowAt h₀ h' x r := by
  cases r with
  | txt p t => obtain ⟨t1, t2, e0, e⟩ := a; exact ⟨t1, t2, e0, k _ _ e0 (fun _ _ q => by cases q) ne_tl e⟩
  | tag p n v =>
    obtain ⟨t1, t3, tx, dx, vv, e0, e1, e2, f0, f1, f2, hv⟩ := a
    exact ⟨t1, t3, tx, dx, vv, e0, e1, e2, k _ _ e0 (fun _ _ q => by cases q) ne_tl f0, k _ _ e1 (fun _ _ q => by cases q) (fun q => by cases q) f1, k _ _ e2 (fun _ _ q => by cases q; rfl) ne_dl f2, hv⟩
theorem RowsAt.keep {h₀ h h' : Heap} (k : ∀ b o, h₀.get? b = none → (∀ es k, o.data = .dict es k → es = #[]) → o.cls ≠ .type "list" → h.get? b = some o → h'.get? b = some o) : ∀ {vs : List Value} {rs : List Row}, RowsAt h₀ h vs rs → RowsAt h₀ h' vs rs
  | [], [], _ => trivial
  | _ :: _, _ :: _, ⟨⟨x, e, a⟩, r⟩ => ⟨⟨x, e, a.keep k⟩, RowsAt.keep k r⟩
  | [], _ :: _, h => h.elim
  | _ :: _, [], h => h.elim
theorem RowsAt.snoc {h₀ h : Heap} {x : Addr} {r : Row} (a : RowAt h₀ h x r) : ∀ {vs : List Value} {rs : List Row}, RowsAt h₀ h vs rs → RowsAt h₀ h (vs ++ [.ref x]) (rs ++ [r])
  | [], [], _ => ⟨⟨x, rfl, a⟩, trivial⟩
  | _ :: _, _ :: _, ⟨e, r⟩ => ⟨e, RowsAt.snoc a r⟩
  | [], _ :: _, h => h.elim
  | _ :: _, [], h => h.elim
theorem RowsAt.len {h₀ h : Heap} : ∀ {vs : List Value} {rs : List Row}, RowsAt h₀ h vs rs → vs.length = rs.length
  | [], [], _ => rfl
  | _ :: _, _ :: _, ⟨_, r⟩ => by simp [RowsAt.len r]
  | [], _ :: _, h => h.elim
  | _ :: _, [], h => h.elim
theorem isGen_S {h h' : Heap} {I : Addr} {go : Nat} (x : h.IsGen I go) (k : KeepS h h') : h'.IsGen I go := let ⟨o, nm, qn, a, b, cc, d⟩ := x; ⟨o, nm, qn, k _ _ (fun _ _ q => by rw [cc] at q; cases q) a, b, cc, d⟩
set_option maxHeartbeats 2000000 in
theorem list_parse {w : World} {E : Value → Shared → Prop} {s : Shared} {g : Str} {hp : Heap} {gens0 : Array GenState} {go d u : Nat} {gd : Option (List Code)} {Lp I : Addr} {fr : List Env} {c : Code} {Q : Value → Shared → Prop}
    (hgo : gens0.size = go) (hgens : s.gens = gens0.push (.fresh c)) (hI : s.heap.IsGen I go) (hLp : Lp < s.heap.objs.size) (hhp : hp.objs.size ≤ Lp) (hps : ∀ b o, hp.get? b = some o → s.heap.get? b = some o) (hl : hp.NoLimit)
    (hP : ParseIs w g hp gens0 go Lp s.heap fr c) (hd : d + 110 < recursionLimit) (hu : u + 250 < cLine) (hlen : (rowsOf g).length ≤ sizeLine)
    (hQ : ∀ (vs : Array Value) (k : Nat) (h' : Heap) (tk : Nat) (gens' : Array GenState), h'.get? s.heap.objs.size = some (listAt vs k) → RowsAt hp h' vs.toList (rowsOf g) → (∀ b o, hp.get? b = some o → h'.get? b = some o) → hp.get? s.heap.objs.size = none →
      (∀ (i : Nat) (x : GenState), gens'[i]? = some x → gens0[i]? = some x ∨ x = GenState.finished) → Q (.ref s.heap.objs.size) { s with heap := h', toks := tk, gens := gens' }) :
    wpAny (model PySem.Challenge.rw_ff5019_01.row.prog w) { handled := none, depth := d, frames := some fr, guards := gd, units := u } (call (.type "list") [.ref I]) Q E s := by
  have hDn : hp.get? s.heap.objs.size = none := by
    cases q : hp.get? s.heap.objs.size with
    | none => rfl
    | some o => exact absurd (Heap.lt_size (hps _ _ q)) (Nat.lt_irrefl _)
  refine list_gen hI (fun k acc s' => ∃ pre post h tk gens gs c, rowsOf g = pre ++ post ∧ k = post.length ∧ s' = { s with heap := h, toks := tk, gens := gens } ∧ h.get? s.heap.objs.size = some (listAt acc c) ∧ RowsAt hp h acc.toList pre ∧
    (∀ b o, hp.get? b = some o → h.get? b = some o) ∧ h.IsGen I go ∧ gens[go]? = some gs ∧ ∀ s'' : Shared, s''.heap = h → (∀ i, i ≠ go → s''.gens[i]? = gens[i]?) → go < s''.gens.size →
      gs.Goes (model PySem.Challenge.rw_ff5019_01.row.prog w) (Around.in1 (Around.in1 (Around.in1 { handled := none, depth := d, frames := some fr, guards := gd, units := u }))) (ParseR hp gens0 go) (ParseY g hp go s.heap.objs.size) k (.send .none) s'') (rowsOf g).length ?_ ?_ ?_
  · rintro k acc s' ⟨pre, post, h, tk, gens, gs, c', e1, e2, _, _, e5, _⟩
    have := e5.len
    rw [e1, List.length_append] at hlen
    have e6 : acc.toList.length = acc.size := by simp
    omega
  · intro h' c' hS hk
    refine ⟨[], rowsOf g, h', s.toks, s.gens, .fresh c, c', rfl, rfl, rfl, hS, trivial, fun b o e => hk _ _ (hps _ _ e), hI.keeps hk, by rw [hgens, ← hgo]; exact Array.getElem?_push_size .., ?_⟩
    intro s'' hh hg hz
    refine ⟨rfl, hP _ _ _ s.heap.objs.size s'' ?_ ?_ (fun b o _ e => by rw [hh]; exact hk b o e) ⟨_, _, _, by rw [hh]; exact hS, rfl⟩ hLp hz fun i x hi hx => ?_⟩
    · show d + 100 < _; omega
    · have := cLine_is; simp only [units_in1]; omega
    · rw [hg i hi, hgens, Array.getElem?_push, if_neg (by rw [hgo]; exact hi)] at hx
      exact hx
  · rintro k acc s' ⟨pre, post, h, tk, gens, gs, c', e1, e2, rfl, e4, e5, e6, e7, e8, e9⟩
    have hz : go < gens.size := (Array.getElem?_eq_some_iff.mp e8).1
    refine wpAny_pyNext_gen (n := k) (gs := gs) (P := fun n s₀ s₁ => n = 0 ∧ ∃ h' tk gens', s₁ = { s₀ with heap := h', toks := tk, gens := gens' } ∧ KeepS s₀.heap h' ∧ (∀ b o, hp.get? b = some o → h'.get? b = some o) ∧
      gens'[go]? = s₀.gens[go]? ∧ ∀ i x, i ≠ go → gens'[i]? = some x → gens0[i]? = some x ∨ x = GenState.finished) rfl (hl.keeps e6) (show d < _ by omega) e7 e8 (e9 _ rfl (fun i hi => by simp [Shared.setGen, Ne.symm hi]) (by simp [Shared.setGen]; exact hz)) ?_ ?_
    · intro v s₁ gs' hY
      obtain ⟨pre2, r, post2, x, h1, tk1, gens1, f1, f2, rfl, hs, fS, fP, fR, fg, fk⟩ := hY
      have hD1 : h1.get? s.heap.objs.size = some (listAt acc c') := fS _ _ (fun _ _ q => by cases q) e4
      cases k with
      | zero => exact (fk s₁ (by rw [hs]; exact KeepBut.refl) ⟨_, _, _, by rw [hs]; exact hD1, rfl⟩ (fun i _ => by rw [hs])).elim
      | succ m =>
        obtain ⟨r', post', rfl⟩ : ∃ r' post', post = r' :: post' := by cases post with | nil => cases e2 | cons a b => exact ⟨a, b, rfl⟩
        have hlen' : post'.length = post2.length := by simp at e2 f2; omega
        rw [e1] at f1
        obtain ⟨q1, q2⟩ := List.append_inj' f1 (by simp [hlen'])
        cases q2
        refine ⟨m, c', rfl, by rw [hs]; exact hD1, fun h' c'' hS' hk' => ⟨pre ++ [r], post2, h', tk1, (s₁.setGen go gs').gens, gs', c'', by rw [e1, List.append_assoc]; rfl, by simpa using e2, by rw [hs]; rfl, hS', ?_, ?_, ?_, ?_, ?_⟩⟩
        · have kk : ∀ b o, hp.get? b = none → b ≠ s.heap.objs.size → h1.get? b = some o → h'.get? b = some o := fun b o _ hb e => hk' b o hb (by rw [hs]; exact e)
          have kr : RowsAt hp h1 acc.toList pre := e5.keep fun b o _ hd _ e => fS b o hd e
          have kr' := RowsAt.snoc fR kr
          have ks : ∀ b o, hp.get? b = none → (∀ es k, o.data = .dict es k → es = #[]) → o.cls ≠ .type "list" → h1.get? b = some o → h'.get? b = some o := fun b o _ _ hc e => hk' b o (fun q => by rw [q, hD1] at e; cases e; exact hc rfl) (by rw [hs]; exact e)
          have := kr'.keep ks
          simpa using this
        · exact fun b o e => hk' b o (fun q => by rw [q, hDn] at e; cases e) (by rw [hs]; exact fP b o e)
        · have : h1.IsGen I go := isGen_S e7 fS
          obtain ⟨o, nm, qn, a, b, cc, dd⟩ := this
          exact ⟨o, nm, qn, hk' _ _ (fun q => by rw [q, hD1] at a; cases a; cases cc) (by rw [hs]; exact a), b, cc, dd⟩
        · have h8 : s₁.gens[go]? = some .running := by
            rw [hs]
            exact fg.trans (setGen_self (s := { s with heap := h, toks := tk, gens := gens }) e8)
          exact setGen_self h8
        · intro s'' hh hg hz'
          refine fk s'' (fun b o hb e => ?_) ⟨_, _, _, by rw [hh]; exact hS', rfl⟩ (fun i hi => ?_)
          · rw [hh]
            exact hk' b o (fun q => hb (by rw [q]; exact List.mem_cons_self)) (by rw [hs]; exact e)
          · rw [hg i hi, hs]
            simp [Shared.setGen, Ne.symm hi]
    · intro s₁ hR h' hk'
      obtain ⟨h0, h1, tk1, gens1, hs, fS, fP, fg, fx⟩ := hR
      have hpost : post = [] := List.length_eq_zero_iff.mp (e2.symm.trans h0)
      subst hpost
      rw [List.append_nil] at e1
      have hD1 : h1.get? s.heap.objs.size = some (listAt acc c') := fS _ _ (fun _ _ q => by cases q) e4
      have kr : RowsAt hp h' acc.toList (rowsOf g) := by
        rw [e1]
        exact e5.keep fun b o _ hd _ e => hk' _ _ (by rw [hs]; exact fS b o hd e)
      have := hQ acc c' h' tk1 (s₁.setGen go .finished).gens (hk' _ _ (by rw [hs]; exact hD1)) kr (fun b o e => hk' _ _ (by rw [hs]; exact fP b o e)) hDn ?_
      · subst hs
        exact this
      · intro i x hx
        by_cases hi : i = go
        · subst hi
          have h8 : s₁.gens[i]? = some .running := by
            rw [hs]
            exact fg.trans (setGen_self (s := { s with heap := h, toks := tk, gens := gens }) e8)
          rw [setGen_self h8] at hx
          exact .inr (Option.some.inj hx).symm
        · have : (s₁.setGen go .finished).gens[i]? = gens1[i]? := by rw [hs]; simp [Shared.setGen, Ne.symm hi]
          rw [this] at hx
          exact fx i x hi hx
end Mine
end
section
open PySem PySem.W PyProof.Rows in
theorem Mine.fresh_P4 : True := by
  k_with_none
  w_top off
  trivial
open PySem PySem.W PyProof.Rows PySem.Builtin PySem.Builtin.Str
namespace Mine
def RowOk (g : Str) : Row → Prop
  | .txt _ t => t.length ≤ g.length
  | .tag _ n v => n.length ≤ g.length ∧ ∀ u, v = some u → u.length ≤ g.length
theorem sl_len_le (g : Str) (a b : Nat) : (sl g a b).length ≤ g.length := by
  show (sl g a b).cps.size ≤ g.cps.size
  rw [← Array.length_toList, ← Array.length_toList, sl_toList, List.length_take, List.length_drop]
  omega
theorem cutName_len (c : Str) : (cutName c).length ≤ c.length := by
  unfold cutName
  split
  · exact sl_len_le ..
  · exact Nat.le_refl _
theorem cutVal_len {c u : Str} (h : cutVal c = some u) : u.length ≤ c.length := by
  unfold cutVal at h
  split at h
  · cases h; exact sl_len_le ..
  · cases h
theorem bsl_len (n : Nat) : (bsl n).length = n := by simp [bsl, Str.length]
theorem rows_ok {g : Str} : ∀ (ts : List (Nat × Nat × Nat)) (mark : Nat), (∀ x ∈ ts, x.2.1 ≤ g.length) → ∀ r ∈ rows g mark ts, RowOk g r
  | [], mark, _, r, hr => by
    unfold rows at hr
    split at hr
    · cases List.mem_singleton.mp hr; exact sl_len_le ..
    · cases hr
  | (st, a, e) :: ts, mark, ht, r, hr => by
    have hr' : r ∈ rowsHead g mark st ++ (rowsTag g st a e ++ rows g e ts) := hr
    rcases List.mem_append.mp hr' with hr | hr
    · unfold rowsHead at hr
      split at hr
      · cases List.mem_singleton.mp hr; exact sl_len_le ..
      · cases hr
    · rcases List.mem_append.mp hr with hr | hr
      · unfold rowsTag at hr
        rcases List.mem_append.mp hr with hr | hr
        · split at hr
          · cases List.mem_singleton.mp hr
            show (bsl _).length ≤ _
            rw [bsl_len]
            have := ht _ (List.mem_cons_self)
            dsimp only at this
            omega
          · cases hr
        · rw [List.mem_singleton.mp hr]
          split
          · exact sl_len_le ..
          · exact ⟨Nat.le_trans (cutName_len _) (sl_len_le ..), fun u hu => Nat.le_trans (cutVal_len hu) (sl_len_le ..)⟩
      · exact rows_ok ts e (fun x hx => ht x (List.mem_cons_of_mem _ hx)) r hr
end Mine
end
section
open PySem PySem.W PyProof.Rows in
theorem Mine.fresh_P5 : True := by
  k_with_none
  w_top off
  trivial
open PySem PySem.W PyProof.Rows PySem.Builtin PySem.Builtin.Str
namespace Mine
theorem ok_iff (x : Str) : PyData.strOk x = true ↔ ∀ c ∈ x.cps.toList, c < 0x110000 := by
  unfold PyData.strOk
  rw [← Array.all_toList, List.all_eq_true]
  simp
theorem ok_sl {g : Str} (h : PyData.strOk g = true) (a b : Nat) : PyData.strOk (sl g a b) = true := by
  rw [ok_iff] at h ⊢
  intro c hc
  rw [sl_toList] at hc
  exact h c (List.mem_of_mem_drop (List.mem_of_mem_take hc))
theorem ok_bsl (n : Nat) : PyData.strOk (bsl n) = true := by
  rw [ok_iff]
  intro c hc
  have : c = 92 := by simpa [bsl] using (List.mem_replicate.mp (by simpa [bsl] using hc)).2
  omega
theorem ok_cutName {c : Str} (h : PyData.strOk c = true) : PyData.strOk (cutName c) = true := by
  unfold cutName
  split
  · exact ok_sl h _ _
  · exact h
theorem ok_cutVal {c u : Str} (h : PyData.strOk c = true) (hu : cutVal c = some u) : PyData.strOk u = true := by
  unfold cutVal at hu
  split at hu
  · cases hu; exact ok_sl h _ _
  · cases hu
theorem ok_own {n : Str} {v : Option Str} (h : PyData.strOk n = true) (hv : ∀ u, v = some u → PyData.strOk u = true) : PyData.strOk (own n v) = true := by
  rw [ok_iff] at h ⊢
  intro c hc
  unfold own at hc
  cases v with
  | none =>
    have hc' : c = 91 ∨ c ∈ n.cps.toList ∨ c = 93 := by simpa using hc
    rcases hc' with rfl | hc' | rfl
    · decide
    · exact h c hc'
    · decide
  | some u =>
    have hc' : c = 91 ∨ c ∈ n.cps.toList ∨ c = 61 ∨ c ∈ u.cps.toList ∨ c = 93 := by simpa using hc
    rcases hc' with rfl | hc' | rfl | hc' | rfl
    · decide
    · exact h c hc'
    · decide
    · exact (ok_iff u).mp (hv u rfl) c hc'
    · decide
theorem ok_txt {p : Nat} {t : Str} (h : PyData.strOk t = true) : kqdOk 8 (Row.told (.txt p t)) = true := by
  simp [Row.told, kqdOk, h]
theorem ok_tag {p : Nat} {n : Str} {v : Option Str} (h : PyData.strOk n = true) (hv : ∀ u, v = some u → PyData.strOk u = true) : kqdOk 8 (Row.told (.tag p n v)) = true := by
  have h2 := ok_own h hv
  cases v with
  | none => simp [Row.told, kqdOk, dStr, h, h2]
  | some u => simp [Row.told, kqdOk, dStr, h, h2, hv u rfl]
theorem rows_told_ok {g : Str} (hg : PyData.strOk g = true) : ∀ (ts : List (Nat × Nat × Nat)) (mark : Nat), ∀ r ∈ rows g mark ts, kqdOk 8 r.told = true
  | [], mark, r, hr => by
    unfold rows at hr
    split at hr
    · cases List.mem_singleton.mp hr; exact ok_txt (ok_sl hg _ _)
    · cases hr
  | (st, a, e) :: ts, mark, r, hr => by
    have hr' : r ∈ rowsHead g mark st ++ (rowsTag g st a e ++ rows g e ts) := hr
    rcases List.mem_append.mp hr' with hr | hr
    · unfold rowsHead at hr
      split at hr
      · cases List.mem_singleton.mp hr; exact ok_txt (ok_sl hg _ _)
      · cases hr
    · rcases List.mem_append.mp hr with hr | hr
      · unfold rowsTag at hr
        rcases List.mem_append.mp hr with hr | hr
        · split at hr
          · cases List.mem_singleton.mp hr; exact ok_txt (ok_bsl _)
          · cases hr
        · rw [List.mem_singleton.mp hr]
          split
          · exact ok_txt (ok_sl hg _ _)
          · exact ok_tag (ok_cutName (ok_sl hg _ _)) fun u hu => ok_cutVal (ok_sl hg _ _) hu
      · exact rows_told_ok hg ts e r hr
end Mine
end
section
open PySem PySem.W PyProof.Rows in
theorem Mine.fresh_P6 : True := by
  k_with_none
  w_top off
  trivial
open PySem PySem.W PyProof.Rows PySem.Builtin PySem.Builtin.Str
namespace Mine
/-! ## join of short good words -/
theorem join_ok {sep : Str} (hs : PyData.strOk sep = true) : ∀ {l : List Str}, (∀ x ∈ l, PyData.strOk x = true) → PyData.strOk (Str.join sep l) = true
  | [], _ => by show PyData.strOk Str.empty = true; decide +kernel
  | [a], h => h a (.head _)
  | a :: b :: r, h => by
    show PyData.strOk (a ++ sep ++ Str.join sep (b :: r)) = true
    have ih := join_ok hs (l := b :: r) fun x hx => h x (.tail _ hx)
    have ha := h a (.head _)
    rw [ok_iff] at ih ha hs ⊢
    intro c hc
    have hc' : (c ∈ a.cps.toList ∨ c ∈ sep.cps.toList) ∨ c ∈ (Str.join sep (b :: r)).cps.toList := by
      have hc2 : c ∈ ((a.cps ++ sep.cps) ++ (Str.join sep (b :: r)).cps).toList := hc
      rw [Array.toList_append, Array.toList_append, List.mem_append, List.mem_append] at hc2
      exact hc2
    rcases hc' with (h1 | h1) | h1
    · exact ha c h1
    · exact hs c h1
    · exact ih c h1
theorem sum_le {B : Nat} : ∀ {l : List Nat}, (∀ x ∈ l, x ≤ B) → l.sum ≤ B * l.length
  | [], _ => by simp
  | a :: r, h => by
    have := sum_le (l := r) fun x hx => h x (.tail _ hx)
    have := h a (.head _)
    rw [List.sum_cons, List.length_cons, Nat.mul_succ]
    omega
theorem join_len {l : List Str} {B : Nat} (h : ∀ x ∈ l, x.length ≤ B) : (Txt.join (Str.ofString "") l).length ≤ B * l.length := by
  show (glued (Str.ofString "") l).length ≤ _
  rw [StrLaws.glued_eq_join]
  cases l with
  | nil => show 0 ≤ _; omega
  | cons a r =>
    rw [len_join_cons]
    have := sum_le (l := (a :: r).map (·.length)) fun x hx => by
      obtain ⟨y, hy, rfl⟩ := List.mem_map.mp hx
      exact h y hy
    rw [List.length_map] at this
    have e : (Str.ofString "").length = 0 := by decide
    rw [e]
    omega
theorem join_given {l : List Str} (hl : l.length ≤ 32) (h : ∀ x ∈ l, x.length ≤ 16 ∧ PyData.strOk x = true) :
    (Txt.join (Str.ofString "") l).length ≤ 1048576 ∧ PyData.strOk (Txt.join (Str.ofString "") l) = true := by
  refine ⟨Nat.le_trans (join_len fun x hx => (h x hx).1) (by omega), ?_⟩
  show PyData.strOk (glued (Str.ofString "") l) = true
  rw [StrLaws.glued_eq_join]
  exact join_ok (by decide +kernel) fun x hx => (h x hx).2
theorem strsAre_snoc : ∀ {vs : List Value} {ys : List Str} (y : Str) (t : Tok), StrsAre vs ys → StrsAre (vs ++ [.str y t]) (ys ++ [y])
  | _, _, y, t, .nil => .cons y t .nil
  | _, _, y, t, .cons z u r => .cons z u (strsAre_snoc y t r)
theorem strsAre_len : ∀ {vs : List Value} {ys : List Str}, StrsAre vs ys → vs.length = ys.length
  | _, _, .nil => rfl
  | _, _, .cons _ _ r => by simp [strsAre_len r]
/-! ## a comprehension's turns by an invariant -/
open LCg in
theorem rest_inv {prog : Program} {w : World} {A : Around} {h₀ : Heap} {L : Addr} {m : Str → Option Value} {env : Env} {elt : Expr} {x : Str} {scope : Scope} {cl : List (Str × Addr)} {s : Shared} {S : List (Addr × Obj) → Prop} {P : Nat → Value → Prop}
    {Fin : List Value → List (Addr × Obj) → Prop} (n : Nat) (J : Nat → List Value → List (Addr × Obj) → Prop)
    (turn : ∀ i ys news v I oI C oC D m₂ h tk (E' : Value → Shared → Prop) (Q' : Value → Shared → Prop), i < n → J i ys news → P i v → NsObj oC m₂ → m₂ x = some v → Fr h₀ L h m → News h₀ L h ((I, oI) :: (C, oC) :: (D, lst ys) :: news) → Off3 I C D news → ((@Ne Nat I C) ∧ (@Ne Nat I D) ∧ (@Ne Nat C D)) →
      (∀ y h' tk' news', Fr h₀ L h' m → News h₀ L h' ((I, oI) :: (C, oC) :: (D, lst ys) :: news') → Off3 I C D news' → S news' → J (i + 1) (ys ++ [y]) news' → Q' y { s with heap := h', toks := tk' }) →
      wpAny (model prog w) A (eval elt (compEnvC scope cl C env)) Q' E' { s with heap := h, toks := tk })
    (fin : ∀ ys news, J n ys news → Fin ys news) : ∀ (k i : Nat) (ys : List Value) (news : List (Addr × Obj)), i + k = n → J i ys news → CompRest prog w A h₀ L m env elt x scope cl s S P Fin k i ys news
  | 0, i, ys, news, e, hJ => CompRest.zero (fin ys news (by rw [← e]; exact hJ))
  | k + 1, i, ys, news, e, hJ => CompRest.succ fun v I oI C oC D m₂ h tk E' hP hC hx F N off ne =>
      turn i ys news v I oI C oC D m₂ h tk E' _ (by omega) hJ hP hC hx F N off ne fun y h' tk' news' F' N' off' hS hJ' =>
        ⟨h', tk', news', rfl, F', N', off', hS, rest_inv n J turn fin k (i + 1) (ys ++ [y]) news' (by omega) hJ'⟩
end Mine
end
section
open PySem PySem.W PyProof.Rows in
theorem Mine.fresh_D1 : True := by
  k_with_none
  w_top off
  trivial
open PySem PySem.W PyProof.Rows PySem.Calls
set_option maxRecDepth 100000
namespace Mine
set_option maxRecDepth 100000 in
set_option maxHeartbeats 8000000 in
theorem c_draw {w : World} {mean : ExcName → Option Value} {mg mb : Str → Option Value} {dp un : Nat} {gd : Option (List Code)} {cn : Str} {cs : Scope} {a : Addr} {ccd : Value} {cl : List (Str × Addr)} {outer : List Env} {A₀ : Around} {base h₀ : Heap} {L : Addr} {m : Str → Option Value} {news : List (Addr × Obj)} {s : Shared} {Q E : Value → Shared → Prop} {st D1 : Addr} {ys : List Value} {vs : List Int} {z q : Int} {t t1 : Tok} {n : Nat} {tl : List (Addr × Obj)} (B : Below A₀ base outer h₀) (F : Fr h₀ L s.heap m) (X : (Mine.hd.heap_39 w.params).In h₀)
    (N : News h₀ L s.heap ((st, listOf #[.ref D1, .int z t] n) :: (D1, LCg.lst ys) :: tl))
    (T : Top Mine.hd.view_39 (looseW Mine.hd.view_39 [Str.ofString "_tuplegetter", Str.ofString "RE_TAGS", Str.ofString "Tag"]) mean mg mb h₀) (hk : cs.kind = .function) (hI : IntsAre ys vs) (hl : ys.length = vs.length) (hn : vs.length ≤ 1000) (off : OwnOff ((D1, LCg.lst ys) :: tl) [st]) (hz : 0 ≤ z) (hq : 0 < q) (hd : dp + 2 < recursionLimit)
    (hret : ∀ v z' t' t2 h' tk', 0 ≤ v → v < q → 0 ≤ z' → Fr h₀ L h' m → News h₀ L h' ((st, listOf #[.ref D1, .int z' t'] n) :: (D1, LCg.lst ys) :: tl) → Q (.int v t2) { s with heap := h', toks := tk' }) :
    wpAny (model PySem.Challenge.rw_ff5019_01.row.prog w) (ktrTop dp un gd cn cs L a ccd cl outer) (call (.ref 193) [.ref st, .int q t1]) Q E s := by
  have hst1 : D1 ≠ st := off _ (.head _) _ (.head _)
  revert X; k_fill; intro X
  refine wpAny_call ?_
  k_dflt cell_enter
  k_steps
  · exact hret 0 z _ _ _ _ (Int.le_refl _) hq hz (by assumption) (by assumption)
  · exact hret _ (z + 1) _ _ _ _ (fmod_lo _ hq) (fmod_hi _ hq) (by omega) (by assumption) (by assumption)
end Mine
end
section
open PySem PySem.W PyProof.Rows in
theorem Mine.fresh_P7 : True := by
  k_with_none
  w_top off
  trivial
open PySem PySem.W PyProof.Rows PySem.Builtin PySem.Builtin.Str
namespace Mine
theorem tags_len (g : Str) : ∀ (n p : Nat), g.length - p = n → (tags g p).length ≤ n := by
  intro n
  induction n using Nat.strongRecOn with
  | _ n ih =>
    intro p hp
    by_cases h : p < g.length
    · cases hm : tagEnd g (bs g p) with
      | none => rw [tags_none h hm]; exact Nat.le_trans (ih (g.length - (p + 1)) (by omega) (p + 1) rfl) (by omega)
      | some e =>
        have h1 := tagEnd_gt hm
        have h2 := bs_ge g p
        rw [tags_some h hm, List.length_cons]
        have := ih (g.length - e) (by omega) e rfl
        omega
    · rw [tags_end (by omega)]; exact Nat.zero_le _
theorem rows_len (g : Str) : ∀ (ts : List (Nat × Nat × Nat)) (m : Nat), (rows g m ts).length ≤ 3 * ts.length + 1
  | [], m => by unfold rows; split <;> simp
  | (st, a, e) :: r, m => by
    have ih := rows_len g r e
    show (rowsHead g m st ++ (rowsTag g st a e ++ rows g e r)).length ≤ _
    have h1 : (rowsHead g m st).length ≤ 1 := by unfold rowsHead; split <;> simp
    have h2 : (rowsTag g st a e).length ≤ 2 := by unfold rowsTag; rw [List.length_append]; split <;> simp
    simp only [List.length_append, List.length_cons]
    omega
theorem rowsOf_len {g : Str} (h : g.length ≤ 1048576) : (rowsOf g).length ≤ 16777216 := by
  have := rows_len g (tags g 0) 0
  have := tags_len g _ 0 rfl
  unfold rowsOf
  omega
def lit : Str := Str.ofString "a\\\\\\[b]c\\[/]\\\\[u=1][z"
def litDue : List Dat := [
  .tuple [.int 1, .str (Str.ofString "a"), .none, .none, .none], .tuple [.int 1, .str (Str.ofString "\\"), .none, .none, .none], .tuple [.int 3, .str (Str.ofString "[b]"), .none, .none, .none],
  .tuple [.int 8, .str (Str.ofString "c"), .none, .none, .none], .tuple [.int 8, .str (Str.ofString "[/]"), .none, .none, .none], .tuple [.int 12, .str (Str.ofString "\\"), .none, .none, .none],
  .tuple [.int 14, .none, .str (Str.ofString "u"), .str (Str.ofString "1"), .str (Str.ofString "[u=1]")], .tuple [.int 19, .str (Str.ofString "[z"), .none, .none, .none]]
theorem told_lit : (rowsOf lit).map Row.told = litDue := by kernel_rfl
end Mine
end
section
open PySem PySem.W PyProof.Rows in
theorem Mine.fresh_D2 : True := by
  k_with_none
  w_top off
  trivial
open PySem PySem.W PyProof.Rows PySem.Calls
set_option maxRecDepth 100000
namespace Mine
def PW (x : Str) : Prop := x.length ≤ 16 ∧ PyData.strOk x = true
theorem getD_mem {l : List Str} {i : Nat} {d : Str} (h : i < l.length) : l.getD i d ∈ l := by
  rw [List.getD_eq_getElem?_getD, List.getElem?_eq_getElem h]; exact List.getElem_mem h
theorem pw_all {l : List Str} (h : (l.all fun x => decide (x.length ≤ 16) && PyData.strOk x) = true) : ∀ x ∈ l, PW x := fun x hx => by
  have := List.all_eq_true.mp h x hx
  simpa [PW] using this
section
variable {α : Type} {p a b c d x y : α} {r : List α}
theorem mv4 (h : p ∈ x :: y :: a :: b :: c :: d :: r) : p ∈ a :: b :: c :: d :: x :: y :: r := by
  simp only [List.mem_cons] at h ⊢
  rcases h with h | h | h | h | h | h | h
  · exact .inr (.inr (.inr (.inr (.inl h))))
  · exact .inr (.inr (.inr (.inr (.inr (.inl h)))))
  · exact .inl h
  · exact .inr (.inl h)
  · exact .inr (.inr (.inl h))
  · exact .inr (.inr (.inr (.inl h)))
  · exact .inr (.inr (.inr (.inr (.inr (.inr h)))))
theorem mv4' (h : p ∈ a :: b :: c :: d :: x :: y :: r) : p ∈ x :: y :: a :: b :: c :: d :: r := by
  simp only [List.mem_cons] at h ⊢
  rcases h with h | h | h | h | h | h | h
  · exact .inr (.inr (.inl h))
  · exact .inr (.inr (.inr (.inl h)))
  · exact .inr (.inr (.inr (.inr (.inl h))))
  · exact .inr (.inr (.inr (.inr (.inr (.inl h)))))
  · exact .inl h
  · exact .inr (.inl h)
  · exact .inr (.inr (.inr (.inr (.inr (.inr h)))))
theorem mv4o (h : p ∈ y :: a :: b :: c :: d :: r) : p ∈ a :: b :: c :: d :: y :: r := by
  simp only [List.mem_cons] at h ⊢
  rcases h with h | h | h | h | h | h
  · exact .inr (.inr (.inr (.inr (.inl h))))
  · exact .inl h
  · exact .inr (.inl h)
  · exact .inr (.inr (.inl h))
  · exact .inr (.inr (.inr (.inl h)))
  · exact .inr (.inr (.inr (.inr (.inr h))))
end
section
variable {w : World} {mean : ExcName → Option Value} {mg mb : Str → Option Value} {dp un : Nat} {gd : Option (List Code)} {cn : Str} {cs : Scope} {a : Addr} {ccd : Value} {cl : List (Str × Addr)} {outer : List Env} {A₀ : Around} {base h₀ : Heap} {L : Addr} {m : Str → Option Value} {s : Shared} {Q E : Value → Shared → Prop}
theorem c_draw1 {p1 : Addr × Obj} {st D1 : Addr} {ys : List Value} {vs : List Int} {z q : Int} {t t1 : Tok} {n : Nat} {tl : List (Addr × Obj)} (B : Below A₀ base outer h₀) (F : Fr h₀ L s.heap m) (X : (Mine.hd.heap_39 w.params).In h₀)
    (N : News h₀ L s.heap (p1 :: (st, listOf #[.ref D1, .int z t] n) :: (D1, LCg.lst ys) :: tl))
    (T : Top Mine.hd.view_39 (looseW Mine.hd.view_39 [Str.ofString "_tuplegetter", Str.ofString "RE_TAGS", Str.ofString "Tag"]) mean mg mb h₀) (hk : cs.kind = .function) (hI : IntsAre ys vs) (hl : ys.length = vs.length) (hn : vs.length ≤ 1000) (off : OwnOff (p1 :: (D1, LCg.lst ys) :: tl) [st]) (hz : 0 ≤ z) (hq : 0 < q) (hd : dp + 2 < recursionLimit)
    (hret : ∀ v z' t' t2 h' tk', 0 ≤ v → v < q → 0 ≤ z' → Fr h₀ L h' m → News h₀ L h' (p1 :: (st, listOf #[.ref D1, .int z' t'] n) :: (D1, LCg.lst ys) :: tl) → Q (.int v t2) { s with heap := h', toks := tk' }) :
    wpAny (model PySem.Challenge.rw_ff5019_01.row.prog w) (ktrTop dp un gd cn cs L a ccd cl outer) (call (.ref 193) [.ref st, .int q t1]) Q E s :=
  c_draw (news := []) (tl := p1 :: tl) B F X (fun p hp => N p (by
      rcases List.mem_cons.mp hp with rfl | hp
      · exact .tail _ (.head _)
      rcases List.mem_cons.mp hp with rfl | hp
      · exact .tail _ (.tail _ (.head _))
      rcases List.mem_cons.mp hp with rfl | hp
      · exact .head _
      · exact .tail _ (.tail _ (.tail _ hp)))) T hk hI hl hn (fun p hp => off p (by
      rcases List.mem_cons.mp hp with rfl | hp
      · exact .tail _ (.head _)
      rcases List.mem_cons.mp hp with rfl | hp
      · exact .head _
      · exact .tail _ (.tail _ hp))) hz hq hd fun v z' t' t2 h' tk' h1 h2 h3 F' N' => hret v z' t' t2 h' tk' h1 h2 h3 F' fun p hp => N' p (by
      rcases List.mem_cons.mp hp with rfl | hp
      · exact .tail _ (.tail _ (.head _))
      rcases List.mem_cons.mp hp with rfl | hp
      · exact .head _
      rcases List.mem_cons.mp hp with rfl | hp
      · exact .tail _ (.head _)
      · exact .tail _ (.tail _ (.tail _ hp)))
theorem c_draw4 {p1 p2 p3 p4 : Addr × Obj} {st D1 : Addr} {ys : List Value} {vs : List Int} {z q : Int} {t t1 : Tok} {n : Nat} {tl : List (Addr × Obj)} (B : Below A₀ base outer h₀) (F : Fr h₀ L s.heap m) (X : (Mine.hd.heap_39 w.params).In h₀)
    (N : News h₀ L s.heap (p1 :: p2 :: p3 :: p4 :: (st, listOf #[.ref D1, .int z t] n) :: (D1, LCg.lst ys) :: tl))
    (T : Top Mine.hd.view_39 (looseW Mine.hd.view_39 [Str.ofString "_tuplegetter", Str.ofString "RE_TAGS", Str.ofString "Tag"]) mean mg mb h₀) (hk : cs.kind = .function) (hI : IntsAre ys vs) (hl : ys.length = vs.length) (hn : vs.length ≤ 1000) (off : OwnOff (p1 :: p2 :: p3 :: p4 :: (D1, LCg.lst ys) :: tl) [st]) (hz : 0 ≤ z) (hq : 0 < q) (hd : dp + 2 < recursionLimit)
    (hret : ∀ v z' t' t2 h' tk', 0 ≤ v → v < q → 0 ≤ z' → Fr h₀ L h' m → News h₀ L h' (p1 :: p2 :: p3 :: p4 :: (st, listOf #[.ref D1, .int z' t'] n) :: (D1, LCg.lst ys) :: tl) → Q (.int v t2) { s with heap := h', toks := tk' }) :
    wpAny (model PySem.Challenge.rw_ff5019_01.row.prog w) (ktrTop dp un gd cn cs L a ccd cl outer) (call (.ref 193) [.ref st, .int q t1]) Q E s :=
  c_draw (news := []) (tl := p1 :: p2 :: p3 :: p4 :: tl) B F X (fun p hp => N p (mv4 hp)) T hk hI hl hn (fun p hp => off p (mv4o hp)) hz hq hd
    fun v z' t' t2 h' tk' h1 h2 h3 F' N' => hret v z' t' t2 h' tk' h1 h2 h3 F' fun p hp => N' p (mv4' hp)
end
open LCg in
theorem draw_rest {prog : Program} {w : World} {A : Around} {h₀ : Heap} {L : Addr} {m : Str → Option Value} {env : Env} {elt : Expr} {x : Str} {scope : Scope} {cl : List (Str × Addr)} {s : Shared} {P : Nat → Value → Prop}
    {Fin : List Value → List (Addr × Obj) → Prop} {n : Nat} {sl st D1 : Addr} {so : Obj} {z : Int} {t : Tok} {nn : Nat} {dys : List Value} {rest : List (Addr × Obj)} (hz : 0 ≤ z)
    (turn : ∀ (ys : List Value) v I oI C oC D m₂ h tk z t (E' : Value → Shared → Prop) (Q' : Value → Shared → Prop), 0 ≤ z → NsObj oC m₂ → m₂ x = some v → Fr h₀ L h m →
      News h₀ L h ((I, oI) :: (C, oC) :: (D, lst ys) :: (sl, so) :: (st, listOf #[.ref D1, .int z t] nn) :: (D1, lst dys) :: rest) → Off3 I C D ((sl, so) :: (st, listOf #[.ref D1, .int z t] nn) :: (D1, lst dys) :: rest) → ((@Ne Nat I C) ∧ (@Ne Nat I D) ∧ (@Ne Nat C D)) →
      (∀ x t' h' tk' z' t2, PW x → 0 ≤ z' → Fr h₀ L h' m → News h₀ L h' ((I, oI) :: (C, oC) :: (D, lst ys) :: (sl, so) :: (st, listOf #[.ref D1, .int z' t2] nn) :: (D1, lst dys) :: rest) → Q' (.str x t') { s with heap := h', toks := tk' }) →
      wpAny (model prog w) A (eval elt (compEnvC scope cl C env)) Q' E' { s with heap := h, toks := tk })
    (fin : ∀ ys words z t, StrsAre ys words → words.length = n → (∀ x ∈ words, PW x) → 0 ≤ z → Fin ys ((sl, so) :: (st, listOf #[.ref D1, .int z t] nn) :: (D1, lst dys) :: rest)) :
    CompRest prog w A h₀ L m env elt x scope cl s (fun _ => True) P Fin n 0 [] ((sl, so) :: (st, listOf #[.ref D1, .int z t] nn) :: (D1, lst dys) :: rest) := by
  refine rest_inv n (fun i ys news => ∃ z t words, news = (sl, so) :: (st, listOf #[.ref D1, .int z t] nn) :: (D1, lst dys) :: rest ∧ 0 ≤ z ∧ StrsAre ys words ∧ words.length = i ∧ ∀ x ∈ words, PW x) ?_ ?_ n 0 [] _ (by omega)
    ⟨z, t, [], rfl, hz, .nil, rfl, fun _ h => nomatch h⟩
  · rintro i ys news v I oI C oC D m₂ h tk E' Q' hi ⟨z, t, words, rfl, hz, hs, hl, hw⟩ hP hC hx F N off ne hQ
    refine turn ys v I oI C oC D m₂ h tk z t E' Q' hz hC hx F N off ne fun x t' h' tk' z' t2 hx hz' F' N' => ?_
    refine hQ _ h' tk' _ F' N' ?_ trivial ⟨z', t2, words ++ [x], rfl, hz', strsAre_snoc x t' hs, by simp [hl], fun y hy => ?_⟩
    · exact ⟨off.1, off.2.1, off.2.2⟩
    · rcases List.mem_append.mp hy with hy | hy
      · exact hw y hy
      · rw [List.mem_singleton.mp hy]; exact hx
  · rintro ys news ⟨z, t, words, rfl, hz, hs, hl, hw⟩
    exact fin ys words z t hs hl hw hz
end Mine
end
section
open PySem PySem.W PyProof.Rows in
theorem Mine.fresh_L4 : True := by
  k_with_none
  w_top off
  trivial
open PySem PySem.W PyProof.Rows PySem.Calls
set_option maxRecDepth 100000
namespace Mine
/-! ## rows in a ledger -/
def RowIn (news : List (Addr × Obj)) (x : Addr) : Row → Prop
  | .txt p t => ∃ t1 t2, (x, ({ cls := .type "tuple", data := .seq #[.int (p : Nat) t1, .str t t2, .none] } : Obj)) ∈ news
  | .tag p n v => ∃ t1 t3 tx dx vv, (x, ({ cls := .type "tuple", data := .seq #[.int (p : Nat) t1, .none, .ref tx] } : Obj)) ∈ news ∧ (tx, tagO n t3 vv dx) ∈ news ∧ (dx, noDict) ∈ news ∧ optStr vv v
def RowsIn (news : List (Addr × Obj)) : List Value → List Row → Prop
  | [], [] => True
  | v :: vs, r :: rs => (∃ x, v = .ref x ∧ RowIn news x r) ∧ RowsIn news vs rs
  | _, _ => False
theorem RowIn.mono {n n' : List (Addr × Obj)} (h : ∀ p ∈ n, p ∈ n') {x : Addr} {r : Row} (a : RowIn n x r) : RowIn n' x r := by
  cases r with
  | txt p t => obtain ⟨t1, t2, a⟩ := a; exact ⟨t1, t2, h _ a⟩
  | tag p m v => obtain ⟨t1, t3, tx, dx, vv, a, b, c, d⟩ := a; exact ⟨t1, t3, tx, dx, vv, h _ a, h _ b, h _ c, d⟩
theorem RowsIn.mono {n n' : List (Addr × Obj)} (h : ∀ p ∈ n, p ∈ n') : ∀ {vs : List Value} {rs : List Row}, RowsIn n vs rs → RowsIn n' vs rs
  | [], [], _ => trivial
  | _ :: _, _ :: _, ⟨⟨x, e, a⟩, r⟩ => ⟨⟨x, e, a.mono h⟩, RowsIn.mono h r⟩
  | [], _ :: _, h => h.elim
  | _ :: _, [], h => h.elim
theorem RowsIn.len {n : List (Addr × Obj)} : ∀ {vs : List Value} {rs : List Row}, RowsIn n vs rs → vs.length = rs.length
  | [], [], _ => rfl
  | _ :: _, _ :: _, ⟨_, r⟩ => by simp [RowsIn.len r]
  | [], _ :: _, h => h.elim
  | _ :: _, [], h => h.elim
theorem RowsIn.get {n : List (Addr × Obj)} : ∀ {vs : List Value} {rs : List Row} {i : Nat} {v : Value}, RowsIn n vs rs → vs[i]? = some v → ∃ x r, v = .ref x ∧ rs[i]? = some r ∧ RowIn n x r
  | [], _, _, _, _, e => by simp at e
  | _ :: _, [], _, _, h, _ => h.elim
  | _ :: _, r :: _, 0, v, ⟨⟨x, e, a⟩, _⟩, q => ⟨x, r, by simp at q; rw [← q]; exact e, rfl, a⟩
  | _ :: _, _ :: _, i + 1, v, ⟨_, h⟩, q => by
    obtain ⟨x, r, e1, e2, e3⟩ := RowsIn.get h (i := i) (v := v) (by simpa using q)
    exact ⟨x, r, e1, by simpa using e2, e3⟩
theorem row_in {hp h : Heap} {x : Addr} {r : Row} (a : RowAt hp h x r) : ∃ ro : List (Addr × Obj), (∀ p ∈ ro, h.get? p.1 = some p.2 ∧ hp.get? p.1 = none) ∧ RowIn ro x r := by
  cases r with
  | txt p t => obtain ⟨t1, t2, e0, e⟩ := a; exact ⟨[(x, _)], fun p hp => by rw [List.mem_singleton.mp hp]; exact ⟨e, e0⟩, t1, t2, .head _⟩
  | tag p n v =>
    obtain ⟨t1, t3, tx, dx, vv, e0, e1, e2, f0, f1, f2, hv⟩ := a
    refine ⟨[(x, _), (tx, _), (dx, _)], fun p hp => ?_, t1, t3, tx, dx, vv, .head _, .tail _ (.head _), .tail _ (.tail _ (.head _)), hv⟩
    rcases List.mem_cons.mp hp with rfl | hp
    · exact ⟨f0, e0⟩
    rcases List.mem_cons.mp hp with rfl | hp
    · exact ⟨f1, e1⟩
    rw [List.mem_singleton.mp hp]; exact ⟨f2, e2⟩
theorem rows_in {hp h : Heap} : ∀ {vs : List Value} {rs : List Row}, RowsAt hp h vs rs → ∃ ro : List (Addr × Obj), (∀ p ∈ ro, h.get? p.1 = some p.2 ∧ hp.get? p.1 = none) ∧ RowsIn ro vs rs
  | [], [], _ => ⟨[], (fun _ h => nomatch h), trivial⟩
  | _ :: _, _ :: _, ⟨⟨x, e, a⟩, r⟩ => by
    obtain ⟨ro, h1, h2⟩ := row_in a
    obtain ⟨rp, h3, h4⟩ := rows_in r
    exact ⟨ro ++ rp, fun p hp => (List.mem_append.mp hp).elim (h1 p) (h3 p), ⟨x, e, h2.mono fun p hp => List.mem_append.mpr (.inl hp)⟩, h4.mono fun p hp => List.mem_append.mpr (.inr hp)⟩
  | [], _ :: _, h => h.elim
  | _ :: _, [], h => h.elim
theorem found_led {h₀ hp h' : Heap} {L D : Addr} {m : Str → Option Value} {news : List (Addr × Obj)} {vs : Array Value} {rs : List Row} {k : Nat} (F : Fr h₀ L hp m) (N : News h₀ L hp news) (hD : h'.get? D = some (listAt vs k)) (hR : RowsAt hp h' vs.toList rs)
    (hk : ∀ b o, hp.get? b = some o → h'.get? b = some o) (hDn : hp.get? D = none) :
    Fr h₀ L h' m ∧ ∃ tl, News h₀ L h' ((D, listOf vs.toList.toArray k) :: tl) ∧ (∀ p ∈ news, p ∈ tl) ∧ RowsIn tl vs.toList rs := by
  obtain ⟨ro, h1, h2⟩ := rows_in hR
  have off : ∀ a, hp.get? a = none → a ≠ L ∧ h₀.get? a = none := by
    intro a e
    constructor
    · intro q
      subst q
      obtain ⟨o, _, _, ho, _⟩ := F.ns
      rw [e] at ho
      cases ho
    · cases q : h₀.get? a with
      | none => rfl
      | some o => rw [F.keep _ _ q] at e; cases e
  refine ⟨F.keeps hk, ro ++ news, fun p hp => ?_, fun p hp => List.mem_append.mpr (.inr hp), h2.mono fun p hp => List.mem_append.mpr (.inl hp)⟩
  rcases List.mem_cons.mp hp with rfl | hp
  · exact ⟨hD, off _ hDn⟩
  rcases List.mem_append.mp hp with hp | hp
  · exact ⟨(h1 p hp).1, off _ (h1 p hp).2⟩
  · exact ⟨hk _ _ (N p hp).1, (N p hp).2⟩
/-! ## `_law_told` of any row -/
theorem dat_opt {n : List (Addr × Obj)} {v : Value} {o : Option Str} (h : optStr v o) : DatIn n v (dStr o) := by
  rcases optStr_cases h with ⟨rfl, rfl⟩ | ⟨u, t, rfl, rfl⟩
  · exact .none
  · exact .str _ _
theorem c_told {w : World} {mean : ExcName → Option Value} {mg mb : Str → Option Value} {dp un : Nat} {gd : Option (List Code)} {cn : Str} {cs : Scope} {a : Addr} {ccd : Value} {cl : List (Str × Addr)} {outer : List Env} {A₀ : Around} {base h₀ : Heap} {L : Addr} {m : Str → Option Value} {news : List (Addr × Obj)} {s : Shared} {Q E : Value → Shared → Prop} {g : Str} {x : Addr} {r : Row} (B : Below A₀ base outer h₀) (F : Fr h₀ L s.heap m) (X : (Mine.hd.heap_39 w.params).In h₀) (N : News h₀ L s.heap news)
    (T : Top Mine.hd.view_39 (looseW Mine.hd.view_39 [Str.ofString "_tuplegetter", Str.ofString "RE_TAGS", Str.ofString "Tag"]) mean mg mb h₀) (hk : cs.kind = .function) (hx : RowIn news x r) (hr : RowOk g r) (hg : g.length ≤ 1048576) (hd : dp + 40 < recursionLimit)
    (hret : ∀ D o h' tk', Fr h₀ L h' m → News h₀ L h' ((D, o) :: news) → (∀ q ∈ news, q.1 < D) → DatIn [(D, o)] (.ref D) r.told → Q (.ref D) { s with heap := h', toks := tk' }) :
    wpAny (model PySem.Challenge.rw_ff5019_01.row.prog w) (ktrTop dp un gd cn cs L a ccd cl outer) (call (.ref 226) [.ref x]) Q E s := by
  cases r with
  | txt p t =>
    obtain ⟨t1, t2, a⟩ := hx
    refine c_told_txt B F X N T hk a hd fun D h' tk' F' N' hl => hret D _ h' tk' F' N' hl ?_
    exact .tuple (vs := [_, _, _, _, _]) (.head _) (.cons (.int _ _) (.cons (.str _ _) (.cons .none (.cons .none (.cons .none .nil)))))
  | tag p n v =>
    obtain ⟨t1, t3, tx, dx, vv, a, b, c, hv⟩ := hx
    refine c_told_tag B F X N T hk a b c (Nat.le_trans hr.1 hg) hv (fun u hu => Nat.le_trans (hr.2 u hu) hg) hd fun D h' tk' t4 F' N' hl => hret D _ h' tk' F' N' hl ?_
    exact .tuple (vs := [_, _, _, _, _]) (.head _) (.cons (.int _ _) (.cons .none (.cons (.str _ _) (.cons (dat_opt hv) (.cons (.str _ _) .nil)))))
/-! ## the comprehension over the rows -/
open LCg in
theorem told_rest {prog : Program} {w : World} {A : Around} {h₀ : Heap} {L : Addr} {m : Str → Option Value} {env : Env} {elt : Expr} {x : Str} {scope : Scope} {cl : List (Str × Addr)} {s : Shared}
    {Fin : List Value → List (Addr × Obj) → Prop} {ax : Addr} {vs : List Value} {k : Nat} {rs : List Row} {tl : List (Addr × Obj)} (hR : RowsIn tl vs rs)
    (turn : ∀ (ys : List Value) rx r I oI C oC D m₂ h tk (E' : Value → Shared → Prop) (Q' : Value → Shared → Prop) (news : List (Addr × Obj)), r ∈ rs → RowIn news rx r → NsObj oC m₂ → m₂ x = some (.ref rx) → Fr h₀ L h m →
      News h₀ L h ((I, oI) :: (C, oC) :: (D, lst ys) :: news) → Off3 I C D news → ((@Ne Nat I C) ∧ (@Ne Nat I D) ∧ (@Ne Nat C D)) →
      (∀ y o h' tk', Fr h₀ L h' m → News h₀ L h' ((y, o) :: (I, oI) :: (C, oC) :: (D, lst ys) :: news) → (∀ q ∈ (I, oI) :: (C, oC) :: (D, lst ys) :: news, q.1 < y) → DatIn [(y, o)] (.ref y) r.told → Q' (.ref y) { s with heap := h', toks := tk' }) →
      wpAny (model prog w) A (eval elt (compEnvC scope cl C env)) Q' E' { s with heap := h, toks := tk })
    (fin : ∀ ys news, (∀ p ∈ (ax, listOf vs.toArray k) :: tl, p ∈ news) → DatAll news ys (rs.map Row.told) → Fin ys news) :
    CompRest prog w A h₀ L m env elt x scope cl s (SrcAt h₀ ax vs.toArray) (fun i v => vs.toArray[i]? = some v) Fin vs.toArray.size 0 [] ((ax, listOf vs.toArray k) :: tl) := by
  refine rest_inv vs.toArray.size (fun i ys news => (∀ p ∈ (ax, listOf vs.toArray k) :: tl, p ∈ news) ∧ DatAll news ys ((rs.take i).map Row.told)) ?_ ?_ _ 0 [] _ (by omega) ⟨fun _ h => h, by simp; exact .nil⟩
  · rintro i ys news v I oI C oC D m₂ h tk E' Q' hi ⟨hsub, hD⟩ hP hC hx F N off ne hQ
    obtain ⟨rx, r, rfl, hr, hin⟩ := hR.get (i := i) (v := v) (by simpa using hP)
    have hrs : r ∈ rs := List.mem_of_getElem? hr
    refine turn ys rx r I oI C oC D m₂ h tk E' Q' news hrs (hin.mono fun p hp => hsub p (.tail _ hp)) hC hx F N off ne fun y o h' tk' F' N' hl hdy => ?_
    refine hQ _ h' tk' ((y, o) :: news) F' (fun p hp => N' p ?_) ?_ (.inr ⟨_, .tail _ (hsub _ (.head _)), rfl, _, rfl⟩) ⟨fun p hp => .tail _ (hsub p hp), ?_⟩
    · simp only [List.mem_cons] at hp ⊢
      rcases hp with hp | hp | hp | hp | hp
      · exact .inr (.inl hp)
      · exact .inr (.inr (.inl hp))
      · exact .inr (.inr (.inr (.inl hp)))
      · exact .inl hp
      · exact .inr (.inr (.inr (.inr hp)))
    · exact ⟨⟨Nat.ne_of_gt (hl _ (.head _)), Nat.ne_of_gt (hl _ (.tail _ (.head _))), Nat.ne_of_gt (hl _ (.tail _ (.tail _ (.head _))))⟩, off⟩
    · rw [List.take_add_one, hr, List.map_append]
      exact (hD.mono fun p hp => .tail _ hp).append (.one (hdy.mono fun p hp => by rw [List.mem_singleton.mp hp]; exact .head _))
  · rintro ys news ⟨hsub, hD⟩
    refine fin ys news hsub ?_
    have e : rs.take vs.toArray.size = rs := by rw [List.take_of_length_le]; rw [List.size_toArray, hR.len]; exact Nat.le_refl _
    rw [e] at hD
    exact hD
end Mine
end
section
open PySem PySem.W PyProof.Rows in
theorem Mine.fresh_L5 : True := by
  k_with_none
  w_top off
  trivial
open PySem PySem.W PyProof.Rows PySem.Calls
set_option maxRecDepth 100000
namespace Mine
section
variable {prog : Program} {w : World} {A : Around} {E : Value → Shared → Prop} {Q : Flow → Shared → Prop} {s : Shared} {env : Env} {h₀ : Heap}
theorem rows_unr {target : Expr} {body : List Stmt} {vs : List Value} {rs : List Row} {news : List (Addr × Obj)} {fp : List Addr} (hR : RowsIn news vs rs)
    (turn : ∀ x r m₁ h₁ tk₁ led (Q' : Flow → Shared → Prop), r ∈ rs → RowIn led x r → Fr h₀ env.locals h₁ m₁ → News h₀ env.locals h₁ led →
      (∀ h' tk' m', Fr h₀ env.locals h' m' → News h₀ env.locals h' led → Q' .next { s with heap := h', toks := tk' }) →
      wpAny (model prog w) A (assign target env (.ref x)) (fun _ s₂ => wpAny (model prog w) A (execs body env) Q' E s₂) E { s with heap := h₁, toks := tk₁ })
    (fin : ∀ m' h' tk', Fr h₀ env.locals h' m' → News h₀ env.locals h' news → Q .next { s with heap := h', toks := tk' }) :
    ∀ (k i : Nat) (m : Str → Option Value), i + k = vs.toArray.size → Unr prog w A E h₀ env target body Q (fun i v => vs.toArray[i]? = some v) fp s k i m news
  | 0, i, m, e => Unr.zero fun h' tk F N => fin m h' tk F N
  | k + 1, i, m, e => Unr.succ fun v h₁ tk₁ own hP _ F N => by
    obtain ⟨x, r, rfl, hr, hin⟩ := hR.get (i := i) (v := v) (by simpa using hP)
    refine turn x r m h₁ tk₁ (own ++ news) _ (List.mem_of_getElem? hr) (hin.mono fun p hp => List.mem_append.mpr (.inr hp)) F N fun h' tk' m' F' N' => ?_
    exact ⟨rfl, h', tk', m', news, rfl, F', N', rfl, rows_unr hR turn fin k (i + 1) m' (by omega)⟩
theorem for_rows {target : Expr} {body : List Stmt} {sn : Str} {ps pos : Pos} {m : Str → Option Value} {D : Addr} {vs : List Value} {k : Nat} {rs : List Row} {news : List (Addr × Obj)} (F : Fr h₀ env.locals s.heap m) (N : News h₀ env.locals s.heap news)
    (hD : (D, listOf vs.toArray k) ∈ news) (hR : RowsIn news vs rs) (hsn : m sn = some (.ref D)) (hk : env.scope.kind = .function) (hl : env.kindOf sn = some .local) (hd : (sn == ("__debug__" : Str)) = false) (hh : A.handled = none)
    (turn : ∀ x r m₁ h₁ tk₁ led (Q' : Flow → Shared → Prop), r ∈ rs → RowIn led x r → Fr h₀ env.locals h₁ m₁ → News h₀ env.locals h₁ led →
      (∀ h' tk' m', Fr h₀ env.locals h' m' → News h₀ env.locals h' led → Q' .next { s with heap := h', toks := tk' }) →
      wpAny (model prog w) A (assign target env (.ref x)) (fun _ s₂ => wpAny (model prog w) A (execs body env) Q' E s₂) E { s with heap := h₁, toks := tk₁ })
    (fin : ∀ m' h' tk', Fr h₀ env.locals h' m' → News h₀ env.locals h' news → Q .next { s with heap := h', toks := tk' })
    (hE : PassesOwn (model prog w) A env E) :
    wpAny (model prog w) A (exec (.For target (.Name sn ps) body [] pos) env) Q E s := by
  refine For_unr h₀ ?_ (fun _ => rfl) hE
  refine wpAny_Name (wpAny_loadName_local hk hl F.ns hsn ?_) hd
  exact Iter_list_unr hh ⟨_, (N _ hD).1, rfl, _, rfl⟩ F N (N _ hD).2.1 (rows_unr (s := { s with heap := s.heap.push { cls := .type "list_iterator", data := .fields #[.ref D, .int 0 0] } }) hR turn fin vs.toArray.size 0 m (Nat.zero_add _))
theorem for_rows3 {target : Expr} {body : List Stmt} {sn : Str} {ps pos : Pos} {m : Str → Option Value} {D : Addr} {vs : List Value} {k : Nat} {g : Str} {rs : List Row} {news : List (Addr × Obj)} (F : Fr h₀ env.locals s.heap m) (N : News h₀ env.locals s.heap news)
    (hD : (D, listOf vs.toArray k) ∈ news) (hR : RowsIn news vs rs) (hg : g.length ≤ 1048576) (hok : ∀ r ∈ rs, RowOk g r)
    (hsn : m sn = some (.ref D)) (hk : env.scope.kind = .function) (hl : env.kindOf sn = some .local) (hd : (sn == ("__debug__" : Str)) = false) (hh : A.handled = none)
    (turnT : ∀ x (p : Nat) t t1 t2 m₁ h₁ tk₁ led (Q' : Flow → Shared → Prop), (x, ({ cls := .type "tuple", data := .seq #[.int p t1, .str t t2, .none] } : Obj)) ∈ led → Fr h₀ env.locals h₁ m₁ → News h₀ env.locals h₁ led →
      (∀ h' tk' m', Fr h₀ env.locals h' m' → News h₀ env.locals h' led → Q' .next { s with heap := h', toks := tk' }) →
      wpAny (model prog w) A (assign target env (.ref x)) (fun _ s₂ => wpAny (model prog w) A (execs body env) Q' E s₂) E { s with heap := h₁, toks := tk₁ })
    (turn0 : ∀ x (p : Nat) n t1 t3 tx dx m₁ h₁ tk₁ led (Q' : Flow → Shared → Prop), n.length ≤ 1048576 → (x, ({ cls := .type "tuple", data := .seq #[.int p t1, .none, .ref tx] } : Obj)) ∈ led → (tx, tagO n t3 .none dx) ∈ led → (dx, noDict) ∈ led →
      Fr h₀ env.locals h₁ m₁ → News h₀ env.locals h₁ led → (∀ h' tk' m', Fr h₀ env.locals h' m' → News h₀ env.locals h' led → Q' .next { s with heap := h', toks := tk' }) →
      wpAny (model prog w) A (assign target env (.ref x)) (fun _ s₂ => wpAny (model prog w) A (execs body env) Q' E s₂) E { s with heap := h₁, toks := tk₁ })
    (turn1 : ∀ x (p : Nat) n u t1 t3 t5 tx dx m₁ h₁ tk₁ led (Q' : Flow → Shared → Prop), n.length ≤ 1048576 → u.length ≤ 1048576 → (x, ({ cls := .type "tuple", data := .seq #[.int p t1, .none, .ref tx] } : Obj)) ∈ led → (tx, tagO n t3 (.str u t5) dx) ∈ led → (dx, noDict) ∈ led →
      Fr h₀ env.locals h₁ m₁ → News h₀ env.locals h₁ led → (∀ h' tk' m', Fr h₀ env.locals h' m' → News h₀ env.locals h' led → Q' .next { s with heap := h', toks := tk' }) →
      wpAny (model prog w) A (assign target env (.ref x)) (fun _ s₂ => wpAny (model prog w) A (execs body env) Q' E s₂) E { s with heap := h₁, toks := tk₁ })
    (fin : ∀ m' h' tk', Fr h₀ env.locals h' m' → News h₀ env.locals h' news → Q .next { s with heap := h', toks := tk' })
    (hE : PassesOwn (model prog w) A env E) :
    wpAny (model prog w) A (exec (.For target (.Name sn ps) body [] pos) env) Q E s := by
  refine for_rows F N hD hR hsn hk hl hd hh (fun x r m₁ h₁ tk₁ led Q' hr hin F₁ N₁ hQ => ?_) fin hE
  have ho := hok r hr
  cases r with
  | txt p t => obtain ⟨t1, t2, a⟩ := hin; exact turnT x p t t1 t2 m₁ h₁ tk₁ led Q' a F₁ N₁ hQ
  | tag p n v =>
    obtain ⟨t1, t3, tx, dx, vv, a, b, c, hv⟩ := hin
    rcases optStr_cases hv with ⟨rfl, rfl⟩ | ⟨u, t5, rfl, rfl⟩
    · exact turn0 x p n t1 t3 tx dx m₁ h₁ tk₁ led Q' (Nat.le_trans ho.1 hg) a b c F₁ N₁ hQ
    · exact turn1 x p n u t1 t3 t5 tx dx m₁ h₁ tk₁ led Q' (Nat.le_trans ho.1 hg) (Nat.le_trans (ho.2 u rfl) hg) a b c F₁ N₁ hQ
end
end Mine
end
section
open PySem PySem.W PyProof.Rows in
theorem Mine.fresh_Y0 : True := by
  k_with_none
  w_top off
  trivial
open PySem PySem.W PyProof.Rows PySem.Calls
set_option maxRecDepth 100000
namespace Mine
theorem wpAny_law {α : Type} {M : Model} {n : Str} {cs : Scope} {L a : Addr} {cd : Value} {E : Value → Shared → Prop} {s : Shared} {x : Sem α} {Q : α → Shared → Prop} (h : wpAny M (ktrTop 302 7 (some []) n cs L a cd (cellsFrom (L + 1) cs.names []) []) x Q E s) : wpAny M (callerA.deeper (envOfC n cs L a cd)) x Q E s := h
theorem rowin3 {n : List (Addr × Obj)} {a b c : Addr × Obj} {x : Addr} {r : Row} (h : RowIn n x r) : RowIn (a :: b :: c :: n) x r := h.mono fun p hp => .tail _ (.tail _ (.tail _ hp))
theorem off_nil {st : Addr} : OwnOff [] [st] := fun _ h => nomatch h
theorem off_cons {st : Addr} {p : Addr × Obj} {tl : List (Addr × Obj)} (h : p.1 ≠ st) (k : OwnOff tl [st]) : OwnOff (p :: tl) [st] := fun q hq b hb => by
  rcases List.mem_cons.mp hq with rfl | hq
  · rw [List.mem_singleton.mp hb]; exact h
  · exact k q hq b hb
theorem ints_short (l : List Int) (f : Int → Int) : ((l.take 40).map f).length ≤ 1000 := by
  rw [List.length_map, List.length_take]; omega
theorem join_g {prog : Program} {w : World} {A : Around} {E : Value → Shared → Prop} {s : Shared} {t : Tok} {Q : Value → Shared → Prop} {D : Addr} {ys : List Value} {words : List Str} (hl : s.heap.IsList D ys.toArray) (hi : StrsAre ys words) (hn : words.length ≤ 32) (hw : ∀ x ∈ words, PW x)
    (h : ∀ g t' k, g.length ≤ 1048576 → PyData.strOk g = true → Q (.str g t') { s with toks := k }) : wpAny (model prog w) A (call (.builtin "str.join") [.str (Str.ofString "") t, .ref D]) Q E s := by
  refine join_list hl hi ?_ fun t' k => ?_
  · have h1 := sum_le (B := 16) (l := words.map (·.length)) fun x hx => by
      obtain ⟨y, hy, rfl⟩ := List.mem_map.mp hx
      exact (hw y hy).1
    rw [List.length_map] at h1
    have e : (Str.ofString "").length = 0 := by decide
    rw [e]
    omega
  · obtain ⟨h1, h2⟩ := join_given hn hw
    exact h _ t' k h1 h2
open Classical in
theorem ne_dat {prog : Program} {w : World} {A : Around} {E : Value → Shared → Prop} {s : Shared} {h₀ : Heap} {L a b : Addr} {tl n₂ : List (Addr × Obj)} {xs ys : List Value} {kb : Nat} {ds : List Dat} {Q : Value → Shared → Prop}
    (N : News h₀ L s.heap ((a, LCg.lst xs) :: tl)) (Da : DatAll tl xs ds) (mb : (b, listOf ys.toArray kb) ∈ tl) (Db : DatAll n₂ ys ds) (sb : ∀ p ∈ n₂, p ∈ tl) (hd : ∀ d ∈ ds, kqdOk 8 d = true) (hu : A.units + 64 < cLine) (h : Q (.bool false) s) :
    wpAny (model prog w) A (compareOp .NotEq (.ref a) (.ref b)) Q E s := by
  refine kqd_ne N (.head _) rfl rfl Da (fun p hp => .tail _ hp) (.tail _ mb) rfl rfl Db (fun p hp => .tail _ (sb p hp)) hd hd hu ?_
  rw [decide_eq_true rfl]
  exact h
theorem all_ok {g : Str} (hg : PyData.strOk g = true) : ∀ d ∈ (rowsOf g).map Row.told, kqdOk 8 d = true := fun d hd => by
  obtain ⟨r, hr, rfl⟩ := List.mem_map.mp hd
  exact rows_told_ok hg _ _ r hr
theorem rowsOf_ok {g : Str} : ∀ r ∈ rowsOf g, RowOk g r := rows_ok _ _ fun x hx => by
  obtain ⟨_, _, _, h4⟩ := tags_mem _ 0 (Nat.le_refl _) x hx
  have := tagEnd_gt h4
  omega
theorem optStr_0 : optStr .none none := by unfold optStr; rfl
theorem optStr_1 (u : Str) (t : Tok) : optStr (.str u t) (some u) := by unfold optStr; exact ⟨t, rfl⟩
open Classical in
theorem eq_dat {prog : Program} {w : World} {A : Around} {E : Value → Shared → Prop} {s : Shared} {h₀ : Heap} {L a b : Addr} {news n₁ : List (Addr × Obj)} {xs ys : List Value} {kb : Nat} {ds es : List Dat} {Q : Value → Shared → Prop}
    (N : News h₀ L s.heap news) (ma : (a, LCg.lst xs) ∈ news) (Da : DatAll n₁ xs ds) (sa : ∀ p ∈ n₁, p ∈ news) (mb : (b, listOf ys.toArray kb) ∈ news) (Db : DatAll news ys es) (hd : ∀ d ∈ ds, kqdOk 8 d = true) (hu : A.units + 64 < cLine) (e : ds = es) (h : Q (.bool true) s) :
    wpAny (model prog w) A (compareOp .Eq (.ref a) (.ref b)) Q E s := by
  subst e
  refine kqd_eq N ma rfl rfl Da sa mb rfl rfl Db (fun _ h => h) hd hd hu ?_
  rw [decide_eq_true rfl]
  exact h
theorem ne_bad {n : Str} (h : (n != n) = true) : False := by
  rw [bne_self_eq_false'] at h
  cases h
theorem bare_step {g0 g2 : Array GenState} (h : ∀ (i : Nat) (x : GenState), g2[i]? = some x → g0[i]? = some x ∨ x = GenState.finished) (b : AllBare g0) : AllBare g2 := fun y hy => by
  obtain ⟨i, hi, e⟩ := Array.mem_iff_getElem.mp hy
  rcases h i y (by rw [Array.getElem?_eq_getElem hi, e]) with q | rfl
  · exact b y (Array.mem_of_getElem? q)
  · rfl
theorem good_true {c : ClaimW} {cl : Str → Option Addr} {mean : ExcName → Option Value} {args : List WData} {s₁ s' : Shared} {L : Addr} {m : Str → Option Value} (F : Fr s₁.heap L s'.heap m) (hn : ∀ cls, c.raises args cls = false) (hp : c.post args (.bool true) args = true)
    (hos : s'.os = s₁.os) (hb : AllBare s'.gens) : GoodWG c cl mean args s₁ (.ok (.ret (.bool true))) s' := by
  have z : GoodW c cl mean args s₁ (.ok (.ret (.bool true))) { s' with gens := #[] } := goodW_bool F rfl hn hp hos
  exact ⟨z.1, .of_keep z.2.1, hos, hb⟩
theorem law_val (args : List WData) : WTm.value [] (.eq .res (.lit (.bool true))) { args := args, res := some (.bool true), after := args } = some (.bool true) := by wtm_val
theorem law_post (l : OpenLaw) (args : List WData) : (l.row.toRowW).claim.post args (.bool true) args = true :=
  postW_of (r := l.row.toRowW) (X := true) (show WShape.has [] (.bool true) .bool = true from rfl) (law_val args) rfl
theorem law_good {l : OpenLaw} {cl : Str → Option Addr} {mean : ExcName → Option Value} {args : List WData} {s₁ s' : Shared} {L : Addr} {m : Str → Option Value} (F : Fr s₁.heap L s'.heap m)
    (hos : s'.os = s₁.os) (hb : AllBare s'.gens) : GoodWG (l.row.toRowW).claim cl mean args s₁ (.ok (.ret (.bool true))) s' :=
  good_true F (fun _ => rfl) (law_post l args) hos hb
end Mine
end
section
open PySem PySem.W PyProof.Rows in
theorem Mine.fresh_Y1 : True := by
  k_with_none
  w_top off
  trivial
open PySem PySem.W PyProof.Rows PySem.Calls
namespace Mine
local macro_rules | `(tactic| wrow_close) => `(tactic| k_extra "close")
local macro_rules | `(tactic| walk_at "call ref") => `(tactic| k_extra "call ref")
local macro_rules | `(tactic| walk_at "eval Name") => `(tactic| k_extra "eval Name")
local macro_rules | `(tactic| walk_at "compareOp NotEq ref ref") => `(tactic| k_extra "compareOp NotEq ref ref")
local macro_rules | `(tactic| walk_at "compareOp Eq ref ref") => `(tactic| k_extra "compareOp Eq ref ref")
local macro_rules | `(tactic| walk_at "exec For") => `(tactic| k_extra "exec For")
local macro_rules | `(tactic| walk_at "CompSrc") => `(tactic| k_extra "CompSrc")
local macro_rules | `(tactic| walk_at "call type:range") => `(tactic| k_extra "call type:range")
local macro_rules | `(tactic| walk_at "call type:list") => `(tactic| k_extra "call type:list")
local macro_rules | `(tactic| walk_at "call type:str") => `(tactic| k_extra "call type:str")
local macro_rules | `(tactic| walk_at "call builtin:isinstance") => `(tactic| k_extra "call builtin:isinstance")
local macro_rules | `(tactic| walk_at "call builtin:str.join") => `(tactic| k_extra "call builtin:str.join")
set_option maxRecDepth 100000 in
set_option maxHeartbeats 8000000 in
theorem y1 : PySem.Challenge.rw_ff5019_01.Holds := hd (by
  k_fill
  intro w s₀ s₁ mg mb G Y fa o pm cd doc dV kV ho hd hcd hD hmg hg args vals as hpre hlay hrd hwl hlo
  have KX := kIn_of Y
  have X := (Ground.X G).1
  have V := (Ground.X G).2
  try w_nolog (first | (have GL := glob_more (Ground.glob G (by first | k_qdec | decide +kernel) (by first | k_qdec | decide +kernel)) V) | (have GL := glob_more (Ground.glob G (by decide +kernel)) V))
  refine Ground.open G ?_
  intro T B D TE TW
  try (refine guard_noD D (by decide +kernel) ?_; clear D)
  obtain ⟨_, _, M⟩ := bmod_of_top T
  have TA := at_of_top T
  try (obtain ⟨_, _, he, B0⟩ := based_of_top T rfl hmg ho hd; have he' : cd = _ := he; subst he'; clear he)
  clear hmg
  wrow_args hpre hlay hrd hwl hlo
  first | refine callC_kw (enter_call ?_) | refine enter_call ?_ | refine callC_kw (enter_callW ?_) | refine enter_callW ?_ | w_how
  w_top on
  have K0 := below_caller (Top.heap T)
  w_call any ho hd hcd hD T F
  clear hd TA
  k_drop
  all_goals try k_fold
  k_with "call ref" => first
    | ((with_reducible show wpAny _ _ (call (Value.ref 193) _) _ _ _); (with_reducible refine wpAny_law ?_); (first
       | refine c_draw1 (by k_asm) (by k_asm) (by k_asm) (by k_asm) (by k_asm) (by exact rfl) (by assumption) (by assumption) ?_ ?_ (by omega) (by decide) (by ktr_room) ?_
       | refine c_draw4 (by k_asm) (by k_asm) (by k_asm) (by k_asm) (by k_asm) (by exact rfl) (by assumption) (by assumption) ?_ ?_ (by omega) (by decide) (by ktr_room) ?_); (focus exact ints_short _ _); (focus (repeat first | exact off_nil | refine off_cons (by k_ne) ?_)); intro v9 z9 t8 t9 h9 tk9 hv9 hw9 hz9 F9 N9; (try dsimp only); skip)
    | ((with_reducible show wpAny _ _ (call (Value.ref 219) _) _ _ _); (with_reducible refine wpAny_law ?_); (refine c_pieces (by k_asm) (by k_asm) (by k_asm) (by k_asm) (by k_asm) (by exact rfl) hg5 (by ktr_room) ?_); intro l4 vs4 nn4 tl4 h4 tk4 F4 N4 hs4 D4; (try dsimp only))
    | ((with_reducible show wpAny _ _ (call (Value.ref 186) _) _ _ _); (with_reducible rename Fr _ _ _ _ => fF3); (with_reducible rename News _ _ _ _ => fN3); (with_reducible refine wpAny_law ?_); (refine c_parse (by k_asm) fF3 (by k_asm) fN3 (by k_asm) (by exact rfl) (by first | exact hg5 | decide +kernel) (by ktr_room) ?_); intro c3 h3 tk3 ht3 hz3 hk3 hi3 hP3; (have fK3 := fF3.keeps hk3); (have fM3 := fN3.grown hk3); (try dsimp only))
    | ((with_reducible show wpAny _ _ (call (Value.ref 226) _) _ _ _); (with_reducible refine wpAny_law ?_); (refine c_told (by k_asm) (by k_asm) (by k_asm) (by k_asm) (by k_asm) (by exact rfl) (rowin3 hin6) (rowsOf_ok _ hr6) (by first | exact hg5 | decide +kernel) (by ktr_room) ?_); intro y5 o5 h5 tk5 F5 N5 hl5 hd5; (try dsimp only))
    | ((with_reducible show wpAny _ _ (call (Value.ref 233) _) _ _ _); (with_reducible refine wpAny_law ?_); (first | refine c_read0 (by k_asm) (by k_asm) (by k_asm) (by k_asm) (by k_asm) (by exact rfl) htx7 hdx7 hn7 (by ktr_room) ?_ | refine c_read1 (by k_asm) (by k_asm) (by k_asm) (by k_asm) (by k_asm) (by exact rfl) htx7 hdx7 hn7 hu7 (by ktr_room) ?_); intro h1 tk1 t1 F1 N1; (try dsimp only))
  k_with "call type:list" => ((with_reducible show wpAny _ _ (call (Value.type "list") [Value.ref _]) _ _ _); (have hq := hP3); (with_reducible refine wpAny_law ?_); (refine list_parse rfl rfl hi3 (Nat.lt_of_lt_of_eq (Nat.lt_add_of_pos_right (k := 2) (by decide)) hz3.symm) (Nat.le_refl _) hk3 ((Top.nolimit (by k_asm)).keeps fF3.keep) hP3 (by ktr_room) (by ktr_room) (rowsOf_len (by first | exact hg5 | decide +kernel)) ?_); intro vs2 k2 h2 tk2 gens2 hS2 hR2 hk2 hD2 hg2; (obtain ⟨F2, tl2, N2, hs2, hi2⟩ := found_led fF3 fN3 hS2 hR2 hk2 hD2); (dsimp only at N2); (have hb2 := bare_step hg2 (by first | exact hb2 | exact AllBare.of_eq hg)); (try k_unmd); (try dsimp only))
  k_with "call type:range" => ((with_unfolding_all refine range1_rows F9 N9 ?_); intro hR9 tkR9 tr1 tr2 tr3 iR9 FR9 NR9 kR9; (refine LCg.CompSrc.range rfl FR9 NR9 iR9 (small_one (by omega) (by omega) (by omega) (by omega)) (rangeSize_nat _ _) (by rw [PySem.sizeLine_eq]; omega) ?_); intro gR9; (refine draw_rest hz9 (fun ys8 v8 I8 oI8 C8 oC8 D8 m8 h8 tk8 z8 t8 E8 Q8 hz8 hC8 hx8 F8 N8 off8 ne8 hQ8 => ?_) (fun ys7 words7 z7 t7 hs7 hl7 hw7 hz7 => ?_)); (all_goals (try simp only [LCg.Off3, and_true] at off8)); (all_goals (try dsimp only)); (all_goals (try k_unmd)))
  k_with "call builtin:str.join" => ((with_reducible show wpAny _ _ (call (Value.builtin "str.join") [Value.str _ _, Value.ref _]) _ _ _); (refine join_g (News.isList (by k_asm) (by k_mem)) hs7 (by omega) hw7 ?_); intro g5 t5 k5 hg5 ho5; (try dsimp only))
  k_with "CompSrc" => ((have hq := hi2); (refine LCg.CompSrc.ledger (by rfl) (by k_asm) (by k_asm) (List.mem_cons_self) (by rw [List.size_toArray, RowsIn.len hi2]; exact rowsOf_len (by first | exact hg5 | decide +kernel)) ?_); intro g6; (refine told_rest hi2 (fun ys6 rx6 r6 I6 oI6 C6 oC6 D6 m6 h6 tk6 E6 Q6 news6 hr6 hin6 hC6 hx6 F6 N6 off6 ne6 hQ6 => ?_) (fun ys1 news1 hsub1 hD1 => ?_)); (all_goals (try dsimp only)); (all_goals (try k_unmd)))
  k_with "eval Name" => ((have hq := hsub1); k_unmd; (with_reducible show wpAny _ _ (eval (Expr.Name _ _) (envOfC _ _ _ _ _)) _ _ _); (with_reducible rename Fr _ _ _ _ => fF1); k_dflt (first
    | refine wpAny_Name (wpAny_loadName_local rfl rfl fF1.ns (if_pos (by decide)) ?_) (by decide)
    | refine wpAny_Name (wpAny_loadName_local rfl rfl fF1.ns ((if_neg (by decide)).trans (if_pos (by decide))) ?_) (by decide)); (try dsimp only))
  k_with "compareOp NotEq ref ref" => ((with_reducible rename News _ _ _ _ => fN1); k_dflt (refine ne_dat fN1 hD1 (hsub1 _ (.tail _ (hs2 _ (.head _)))) D4 (fun p hp => hsub1 _ (.tail _ (hs2 _ (.tail _ hp)))) (all_ok ho5) (by ke_room) ?_); (try dsimp only))
  k_with "close" => ((with_reducible show GoodWG _ _ _ _ _ (.ok (.ret (.bool true))) _); (with_reducible rename Fr _ _ _ _ => fF1); k_dflt (exact law_good fF1 rfl hb2))
  k_with "compareOp Eq ref ref" => ((with_reducible rename News _ _ _ _ => fN1); k_dflt (refine eq_dat (es := litDue) fN1 (by k_mem) hD1 (fun p hp => by repeat first | exact hp | apply List.Mem.tail) (by k_mem) ?_ (all_ok (by decide +kernel)) (by ke_room) told_lit ?_); (focus (k_dflt kqd_all)); (try dsimp only))
  k_with "exec For" => ((with_reducible rename Fr _ _ _ _ => fF1); (with_reducible rename News _ _ _ _ => fN1); k_dflt (refine for_rows3 fF1 fN1 (.tail _ (hsub1 _ (.head _))) (hi2.mono fun p hp => .tail _ (hsub1 _ (.tail _ hp))) hg5 rowsOf_ok (if_pos (by decide)) rfl rfl (by decide) rfl (fun x7 p7 tt7 t71 t72 m7 h7 tk7 led7 Q7 hx7 F7 N7 hQ7 => ?_) (fun x7 p7 n7 t71 t73 tx7 dx7 m7 h7 tk7 led7 Q7 hn7 hx7 htx7 hdx7 F7 N7 hQ7 => ?_) (fun x7 p7 n7 u7 t71 t73 t75 tx7 dx7 m7 h7 tk7 led7 Q7 hn7 hu7 hx7 htx7 hdx7 F7 N7 hQ7 => ?_) (fun m0 h0 tk0 F0 N0 => ?_) (by passes_own)); (all_goals (try k_unmd)); (all_goals (try dsimp only)))
  k_with "call builtin:isinstance" => ((have hq := htx7); k_unmd; (with_reducible refine wpAny_law ?_); (refine isi_tag (by k_asm) (by k_asm) (by k_asm) (by k_asm) (by k_asm) (by exact rfl) htx7 hdx7 ?_); (try dsimp only))
  k_with "call type:str" => ((have hq := htx7); k_unmd; (with_reducible refine wpAny_law ?_); (first | refine str_tag (by k_asm) (by k_asm) (by k_asm) (by k_asm) (by k_asm) (by exact rfl) htx7 hdx7 hn7 optStr_0 (fun _ q => nomatch q) (by ktr_room) (by ktr_room) ?_ | refine str_tag (by k_asm) (by k_asm) (by k_asm) (by k_asm) (by k_asm) (by exact rfl) htx7 hdx7 hn7 (optStr_1 _ _) (fun _ q => Option.some.inj q ▸ hu7) (by ktr_room) (by ktr_room) ?_); intro h1 tk1 t1 F1 N1; (try dsimp only [strText]))
  k_steps
  all_goals try first
    | exact hQ8 _ _ _ _ _ _ (pw_all (by decide +kernel) _ (getD_mem (by show _ < 19; omega))) hz9 F9 N9
    | exact hQ6 _ _ _ _ F5 N5 hl5 hd5
    | exact hQ7 _ _ _ (by k_asm) (by k_asm)
    | exact (ne_bad (by with_reducible assumption)).elim
  )
end Mine
end
theorem PySem.Challenge.cw_ff5019_01_holds : PySem.Challenge.rw_ff5019_01.Holds := by
  exact Mine.y1
