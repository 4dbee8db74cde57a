import PyProof.Rows.All
import Wide.All
import OpenK.AllK
import Wide.FinOn
import PySem.Challenge.RW_bm0011_01
set_option Elab.async false
set_option rowWalk.seconds 1700
section
open PySem PySem.W PyProof.Rows
namespace Mine
set_option maxRecDepth 100000 in
set_option maxHeartbeats 8000000 in
open_top hd for PySem.Challenge.rw_bm0011_01
end Mine
end
section
open PySem PySem.W PyProof.Rows PySem.Builtin PySem.Builtin.Str
namespace Mine

/-- a text by its signs' numbers -/
def tx (l : List Nat) : Str := ⟨l.toArray⟩
theorem tx_toList (l : List Nat) : (tx l).cps.toList = l := rfl
theorem tx_length (l : List Nat) : (tx l).length = l.length := by simp [tx, Str.length]
theorem tx_append (a b : List Nat) : tx a ++ tx b = tx (a ++ b) := by
  apply Str.ext'
  simp [Str.cps_append, tx]
/-- two texts glued, kept whole -/
def cat (a b : List Nat) : List Nat := a ++ b
theorem cat_length (a b : List Nat) : (cat a b).length = a.length + b.length := by simp [cat]
theorem tx_inj {a b : List Nat} : tx a = tx b ↔ a = b := by
  constructor
  · intro h
    have := congrArg (fun s : Str => s.cps.toList) h
    simpa [tx] using this
  · intro h; rw [h]
theorem tx_beq (a b : List Nat) : (tx a == tx b) = decide (a = b) := by
  rw [Bool.eq_iff_iff, beq_iff_eq, decide_eq_true_eq, tx_inj]

theorem lit_empty : Str.ofString "" = tx [] := by decide +kernel
theorem lit_sq : Str.ofString "'" = tx [39] := by decide +kernel
theorem lit_dq : Str.ofString "\"" = tx [34] := by decide +kernel
theorem lit_r : Str.ofString "r" = tx [114] := by decide +kernel
theorem lit_u : Str.ofString "u" = tx [117] := by decide +kernel
theorem lit_U : Str.ofString "U" = tx [85] := by decide +kernel
theorem lit_b : Str.ofString "b" = tx [98] := by decide +kernel
theorem lit_bs : Str.ofString "\\" = tx [92] := by decide +kernel
theorem lit_nl : Str.ofString "\n" = tx [10] := by decide +kernel
theorem lit_cr : Str.ofString "\r" = tx [13] := by decide +kernel
theorem lit_tab : Str.ofString "\t" = tx [9] := by decide +kernel
theorem lit_bad : Str.ofString "abfvxNuU01234567" = tx [97, 98, 102, 118, 120, 78, 117, 85, 48, 49, 50, 51, 52, 53, 54, 55] := by decide +kernel

/-- what stands in a text -/
theorem contains_one (l : List Nat) (c : Nat) : Txt.contains (tx l) (tx [c]) = decide (c ∈ l) := by
  show (!(occurrences (tx l) ⟨#[c]⟩ 0 (tx l).length 1).isEmpty) = _
  rw [StrLaws.found_one, tx_toList]

theorem item_tx {l : List Nat} {i : Int} (h0 : 0 ≤ i) (h1 : i < l.length) : Txt.item (tx l) i = tx [l.getD i.toNat 0] := by
  rw [item_at (x := tx l) (n := i.toNat) h0 (by rw [tx_length]; exact h1) rfl]
  simp [tx]

theorem slice_tx {l : List Nat} {i j : Int} (h0 : 0 ≤ i) (h1 : i ≤ j) (h2 : j ≤ l.length) : Txt.slice (tx l) (some i) (some j) = tx ((l.drop i.toNat).take (j - i).toNat) := by
  have := slice_closes (x := tx l) (i := i) (j := j) ⟨h0, h1, by rw [tx_toList]; exact h2⟩
  rw [beq_iff_eq, tx_toList] at this
  exact this
theorem slice_tx_to {l : List Nat} {j : Int} (h0 : 0 ≤ j) (h2 : j ≤ l.length) : Txt.slice (tx l) none (some j) = tx (l.take j.toNat) := by
  have := slice_closes_to (x := tx l) (j := j) ⟨h0, by rw [tx_toList]; exact h2⟩
  rw [beq_iff_eq, tx_toList] at this
  rw [this]
  simp [tx]

/-- the form of a literal: a prefix, a quote, the body, the quote -/
def lit (P : List Nat) (q : Nat) (B : List Nat) : List Nat := P ++ q :: (B ++ [q])
theorem lit_length (P : List Nat) (q : Nat) (B : List Nat) : (lit P q B).length = P.length + B.length + 2 := by
  simp [lit]; omega
theorem lit_take (P : List Nat) (q : Nat) (B : List Nat) : (lit P q B).take P.length = P := by simp [lit]
theorem slice_prefix (P : List Nat) (q : Nat) (B : List Nat) : Txt.slice (tx (lit P q B)) none (some (P.length : Int)) = tx P := by
  rw [slice_tx_to (by omega) (by rw [lit_length]; omega)]
  rw [Int.toNat_natCast, lit_take]

theorem slice_body (P : List Nat) (q : Nat) (B : List Nat) : Txt.slice (tx (lit P q B)) (some ((P.length : Int) + 1)) (some (-1)) = tx B := by
  have hl := lit_length P q B
  have e : Txt.slice (tx (lit P q B)) (some ((P.length : Int) + 1)) (some (-1)) = Txt.slice (tx (lit P q B)) (some ((P.length : Int) + 1)) (some (-1 + ((tx (lit P q B)).length : Int))) :=
    StrLaws.sliceText_neg_hi (tx (lit P q B)) _ (by omega) (by rw [tx_length, hl]; omega)
  rw [e, tx_length, slice_tx (by omega) (by rw [hl]; omega) (by omega)]
  have e1 : ((P.length : Int) + 1).toNat = P.length + 1 := by omega
  have e2 : (-1 + ((lit P q B).length : Int) - ((P.length : Int) + 1)).toNat = B.length := by rw [hl]; omega
  rw [e1, e2]
  unfold lit
  have e3 : (P ++ q :: (B ++ [q])).drop (P.length + 1) = B ++ [q] := by
    rw [show P ++ q :: (B ++ [q]) = (P ++ [q]) ++ (B ++ [q]) by simp]
    exact List.drop_left' (by simp)
  rw [e3, List.take_left' rfl]
theorem slice_two {B : List Nat} {k : Int} (h0 : 0 ≤ k) (h1 : k + 1 < B.length) : Txt.slice (tx B) (some k) (some (k + 2)) = tx [B.getD k.toNat 0, B.getD (k + 1).toNat 0] := by
  rw [slice_tx h0 (by omega) (by omega)]
  have e2 : (k + 2 - k).toNat = 2 := by omega
  have e3 : (k + 1).toNat = k.toNat + 1 := by omega
  rw [e2, e3]
  have a : k.toNat < B.length := by omega
  have b : k.toNat + 1 < B.length := by omega
  have e4 : (B.drop k.toNat).take 2 = [B[k.toNat], B[k.toNat + 1]] := by
    rw [List.drop_eq_getElem_cons a, List.drop_eq_getElem_cons b]; rfl
  rw [e4]
  simp [List.getD_eq_getElem?_getD, List.getElem?_eq_getElem a, List.getElem?_eq_getElem b]

/-- where the quote stands -/
theorem quote_at {P : List Nat} {q : Nat} {B : List Nat} {k : Int} (hq : q = 39 ∨ q = 34) (hP : ∀ c ∈ P, c ≠ 39 ∧ c ≠ 34) (h0 : 0 ≤ k) (h1 : k ≤ P.length) :
    (!([Str.ofString "\"", Str.ofString "'"].any fun x => x == tx [(lit P q B).getD k.toNat 0])) = decide (k < (P.length : Int)) := by
  have e : ([Str.ofString "\"", Str.ofString "'"].any fun x => x == tx [(lit P q B).getD k.toNat 0]) = decide ((lit P q B).getD k.toNat 0 = 34 ∨ (lit P q B).getD k.toNat 0 = 39) := by
    rw [lit_dq, lit_sq]
    simp only [List.any_cons, List.any_nil, Bool.or_false, tx_beq]
    rw [Bool.eq_iff_iff]
    simp only [Bool.or_eq_true, decide_eq_true_eq, List.cons.injEq, and_true]
    constructor
    · rintro (h | h)
      · exact .inl h.symm
      · exact .inr h.symm
    · rintro (h | h)
      · exact .inl h.symm
      · exact .inr h.symm
  rw [e]
  by_cases hk : k < (P.length : Int)
  · have a : k.toNat < P.length := by omega
    have g : (lit P q B).getD k.toNat 0 = P[k.toNat] := by
      unfold lit
      rw [List.getD_eq_getElem?_getD, List.getElem?_append_left a, List.getElem?_eq_getElem a]; rfl
    have := hP _ (List.getElem_mem a)
    rw [g]
    simp [this.1, this.2, hk]
  · have a : k.toNat = P.length := by omega
    have g : (lit P q B).getD k.toNat 0 = q := by
      unfold lit
      rw [a, List.getD_eq_getElem?_getD, List.getElem?_append_right (Nat.le_refl _)]
      simp
    rw [g]
    rcases hq with h | h <;> simp [h, hk]

/-- what the loop over the body yields -/
def badEsc : List Nat := [97, 98, 102, 118, 120, 78, 117, 85, 48, 49, 50, 51, 52, 53, 54, 55]
def escOf (d : Nat) : List Nat := if d = 92 then [92] else if d = 39 then [39] else if d = 34 then [34] else if d = 110 then [10] else if d = 114 then [13] else if d = 116 then [9] else [92, d]
def un : List Nat → Option (List Nat)
  | [] => some []
  | [c] => if c = 92 then none else some [c]
  | c :: d :: r => if c = 92 then (if d ∈ badEsc then none else (un r).map (escOf d ++ ·)) else (un (d :: r)).map (c :: ·)
theorem un_cons {c : Nat} (r : List Nat) (h : c ≠ 92) : un (c :: r) = (un r).map (c :: ·) := by
  cases r with
  | nil => simp [un, h]
  | cons d r => rw [un, if_neg h]
theorem un_bs (d : Nat) (r : List Nat) : un (92 :: d :: r) = if d ∈ badEsc then none else (un r).map (escOf d ++ ·) := by
  rw [un, if_pos rfl]
theorem un_free : ∀ {B : List Nat}, 92 ∉ B → un B = some B
  | [], _ => rfl
  | c :: r, h => by
    rw [un_cons r (fun e => h (by rw [e]; exact List.mem_cons_self)), un_free (fun m => h (List.mem_cons_of_mem _ m))]
    rfl
theorem un_append : ∀ {A : List Nat} (C : List Nat), 92 ∉ A → un (A ++ C) = (un C).map (A ++ ·)
  | [], C, _ => by simp
  | c :: r, C, h => by
    rw [List.cons_append, un_cons _ (fun e => h (by rw [e]; exact List.mem_cons_self)), un_append C (fun m => h (List.mem_cons_of_mem _ m))]
    cases un C <;> simp
theorem bad_contains (d : Nat) : Txt.contains (Str.ofString "abfvxNuU01234567") (tx [d]) = decide (d ∈ badEsc) := by
  rw [lit_bad, contains_one]; rfl

theorem drop_at {B : List Nat} {k : Int} (h0 : 0 ≤ k) (h1 : k < B.length) : B.drop k.toNat = B.getD k.toNat 0 :: B.drop (k + 1).toNat := by
  have a : k.toNat < B.length := by omega
  have e3 : (k + 1).toNat = k.toNat + 1 := by omega
  rw [List.drop_eq_getElem_cons a, e3, List.getD_eq_getElem?_getD, List.getElem?_eq_getElem a]; rfl

/-- the word of the second loop: what is read so far and what is to be read make R -/
def Wok (B R : List Nat) (value : Str) (k : Int) : Prop := 0 ≤ k ∧ k ≤ (B.length : Int) ∧ ∃ v r, value = tx v ∧ un (B.drop k.toNat) = some r ∧ R = v ++ r
theorem wok_ge {B R : List Nat} {value : Str} {k : Int} (W : Wok B R value k) : 0 ≤ k := W.1
theorem wok_ge1 {B R : List Nat} {value : Str} {k : Int} (W : Wok B R value k) : 0 ≤ k + 1 := by have := W.1; omega
theorem wok_start {B R : List Nat} (h : un B = some R) : Wok B R (Str.ofString "") 0 := ⟨by omega, by omega, [], R, lit_empty, by simpa using h, rfl⟩
theorem wok_end {B R : List Nat} {value : Str} {k : Int} (W : Wok B R value k) (h : ¬ k < (B.length : Int)) : value = tx R := by
  obtain ⟨h0, h1, v, r, hv, hu, hR⟩ := W
  have e : B.drop k.toNat = [] := List.drop_eq_nil_of_le (by omega)
  rw [e] at hu
  cases hu
  rw [hv, hR, List.append_nil]
theorem wok_plain {B R : List Nat} {value : Str} {k : Int} (W : Wok B R value k) (h : k < (B.length : Int)) (hc : ¬ B.getD k.toNat 0 = 92) : Wok B R (value ++ tx [B.getD k.toNat 0]) (k + 1) := by
  obtain ⟨h0, h1, v, r, hv, hu, hR⟩ := W
  rw [drop_at h0 h, un_cons _ hc] at hu
  cases hr : un (B.drop (k + 1).toNat) with
  | none => rw [hr] at hu; cases hu
  | some r' =>
    rw [hr] at hu
    cases hu
    exact ⟨by omega, by omega, v ++ [B.getD k.toNat 0], r', by rw [hv, tx_append], hr, by rw [hR]; simp⟩
theorem wok_next {B R : List Nat} {value : Str} {k : Int} (W : Wok B R value k) (h : k < (B.length : Int)) (hcc : ¬¬B.getD k.toNat 0 = 92) : k + 1 < (B.length : Int) := by
  have hc := Decidable.not_not.mp hcc
  obtain ⟨h0, h1, v, r, hv, hu, hR⟩ := W
  by_cases e : k + 1 < (B.length : Int)
  · exact e
  · rw [drop_at h0 h, hc, List.drop_eq_nil_of_le (by omega)] at hu
    cases hu
theorem wok_good {B R : List Nat} {value : Str} {k : Int} (W : Wok B R value k) (h : k < (B.length : Int)) (hcc : ¬¬B.getD k.toNat 0 = 92) : ¬ B.getD (k + 1).toNat 0 ∈ badEsc := by
  have hn := wok_next W h hcc
  have hc := Decidable.not_not.mp hcc
  obtain ⟨h0, h1, v, r, hv, hu, hR⟩ := W
  rw [drop_at h0 h, hc, drop_at (by omega) hn, un_bs] at hu
  intro hb
  rw [if_pos hb] at hu
  cases hu
theorem wok_esc {B R : List Nat} {value : Str} {k : Int} (W : Wok B R value k) (h : k < (B.length : Int)) (hcc : ¬¬B.getD k.toNat 0 = 92) : Wok B R (value ++ tx (escOf (B.getD (k + 1).toNat 0))) (k + 2) := by
  have hn := wok_next W h hcc
  have hc := Decidable.not_not.mp hcc
  have hg := wok_good W h hcc
  obtain ⟨h0, h1, v, r, hv, hu, hR⟩ := W
  rw [drop_at h0 h, hc, drop_at (by omega) hn, un_bs, if_neg hg] at hu
  have e : (k + 1 + 1).toNat = (k + 2).toNat := by omega
  rw [e] at hu
  cases hr : un (B.drop (k + 2).toNat) with
  | none => rw [hr] at hu; cases hu
  | some r' =>
    rw [hr] at hu
    cases hu
    exact ⟨by omega, by omega, v ++ escOf (B.getD (k + 1).toNat 0), r', by rw [hv, tx_append], hr, by rw [hR]; simp⟩
theorem wok_len {B R : List Nat} {value : Str} {k : Int} (W : Wok B R value k) : value.length ≤ R.length := by
  obtain ⟨_, _, v, r, hv, _, hR⟩ := W
  rw [hv, tx_length, hR, List.length_append]; omega
theorem escOf_len (d : Nat) : (escOf d).length ≤ 2 := by
  unfold escOf
  (repeat' split) <;> simp
theorem wok_size1 {B R : List Nat} {value : Str} {k : Int} {c : Nat} (W : Wok B R value k) (hR : R.length ≤ 1000) : value.length + (tx [c]).length ≤ 100000 := by
  have := wok_len W
  rw [tx_length]; simp only [List.length_cons, List.length_nil]; omega
theorem wok_size2 {B R : List Nat} {value : Str} {k : Int} {d : Nat} (W : Wok B R value k) (hR : R.length ≤ 1000) : value.length + (tx (escOf d)).length ≤ 100000 := by
  have := wok_len W
  have := escOf_len d
  rw [tx_length]; omega

/-- a body at which the loop raises -/
def ub : List Nat → Prop
  | [] => False
  | [_] => False
  | c :: d :: r => if c = 92 then (d ∈ badEsc ∨ ub r) else ub (d :: r)
theorem ub_cons {c : Nat} (r : List Nat) (h : c ≠ 92) : ub (c :: r) = ub r := by
  cases r with
  | nil => rfl
  | cons d r => rw [ub, if_neg h]
theorem ub_bs (d : Nat) (r : List Nat) : ub (92 :: d :: r) = (d ∈ badEsc ∨ ub r) := by
  rw [ub, if_pos rfl]
theorem ub_append : ∀ {A : List Nat} (C : List Nat), 92 ∉ A → ub (A ++ C) = ub C
  | [], _, _ => rfl
  | c :: r, C, h => by
    rw [List.cons_append, ub_cons _ (fun e => h (by rw [e]; exact List.mem_cons_self)), ub_append C (fun m => h (List.mem_cons_of_mem _ m))]
def Wbad (B : List Nat) (value : Str) (k : Int) : Prop := 0 ≤ k ∧ k ≤ (B.length : Int) ∧ ub (B.drop k.toNat) ∧ (value.length : Int) ≤ 2 * k
theorem wbad_start {B : List Nat} (h : ub B) : Wbad B (Str.ofString "") 0 := ⟨by omega, by omega, by simpa using h, by rw [lit_empty, tx_length]; simp⟩
theorem wbad_ge {B : List Nat} {value : Str} {k : Int} (W : Wbad B value k) : 0 ≤ k := W.1
theorem wbad_ge1 {B : List Nat} {value : Str} {k : Int} (W : Wbad B value k) : 0 ≤ k + 1 := by have := W.1; omega
theorem wbad_end {B : List Nat} {value : Str} {k : Int} (W : Wbad B value k) (h : ¬ k < (B.length : Int)) : False := by
  obtain ⟨h0, h1, hu, hl⟩ := W
  have e : B.drop k.toNat = [] := List.drop_eq_nil_of_le (by omega)
  rw [e] at hu
  exact hu
theorem wbad_plain {B : List Nat} {value : Str} {k : Int} (W : Wbad B value k) (h : k < (B.length : Int)) (hc : ¬ B.getD k.toNat 0 = 92) : Wbad B (value ++ tx [B.getD k.toNat 0]) (k + 1) := by
  obtain ⟨h0, h1, hu, hl⟩ := W
  rw [drop_at h0 h, ub_cons _ hc] at hu
  exact ⟨by omega, by omega, hu, by rw [Str.length_append, tx_length]; simp only [List.length_cons, List.length_nil]; omega⟩
theorem wbad_next {B : List Nat} {value : Str} {k : Int} (W : Wbad B value k) (h : k < (B.length : Int)) (hcc : ¬¬B.getD k.toNat 0 = 92) : k + 1 < (B.length : Int) := by
  have hc := Decidable.not_not.mp hcc
  obtain ⟨h0, h1, hu, hl⟩ := W
  by_cases e : k + 1 < (B.length : Int)
  · exact e
  · rw [drop_at h0 h, hc, List.drop_eq_nil_of_le (by omega)] at hu
    exact hu.elim
theorem wbad_esc {B : List Nat} {value : Str} {k : Int} (W : Wbad B value k) (h : k < (B.length : Int)) (hcc : ¬¬B.getD k.toNat 0 = 92) (hb : ¬ B.getD (k + 1).toNat 0 ∈ badEsc) : Wbad B (value ++ tx (escOf (B.getD (k + 1).toNat 0))) (k + 2) := by
  have hn := wbad_next W h hcc
  have hc := Decidable.not_not.mp hcc
  obtain ⟨h0, h1, hu, hl⟩ := W
  rw [drop_at h0 h, hc, drop_at (by omega) hn, ub_bs] at hu
  have e : (k + 1 + 1).toNat = (k + 2).toNat := by omega
  rw [e] at hu
  have := escOf_len (B.getD (k + 1).toNat 0)
  exact ⟨by omega, by omega, hu.resolve_left hb, by rw [Str.length_append, tx_length]; omega⟩
theorem wbad_size1 {B : List Nat} {value : Str} {k : Int} {c : Nat} (W : Wbad B value k) (hB : B.length ≤ 1000) : value.length + (tx [c]).length ≤ 100000 := by
  obtain ⟨h0, h1, hu, hl⟩ := W
  rw [tx_length]; simp only [List.length_cons, List.length_nil]; omega
theorem wbad_size2 {B : List Nat} {value : Str} {k : Int} {d : Nat} (W : Wbad B value k) (hB : B.length ≤ 1000) : value.length + (tx (escOf d)).length ≤ 100000 := by
  obtain ⟨h0, h1, hu, hl⟩ := W
  have := escOf_len d
  rw [tx_length]; omega

/-- what the law writes of a sign -/
def escSign (q c : Nat) : List Nat := if c = 92 then [92, 92] else if c = q then [92, q] else if c = 10 then [92, 110] else if c = 13 then [92, 114] else if c = 9 then [92, 116] else [c]
def escAll (q : Nat) (l : List Nat) : List Nat := l.flatMap (escSign q)
theorem escSign_len (q c : Nat) : (escSign q c).length ≤ 2 := by
  unfold escSign
  (repeat' split) <;> simp
theorem escAll_len (q : Nat) : ∀ l : List Nat, (escAll q l).length ≤ 2 * l.length
  | [] => by simp [escAll]
  | c :: l => by
    have := escAll_len q l
    have := escSign_len q c
    simp only [escAll, List.flatMap_cons, List.length_append, List.length_cons] at *
    omega
theorem escSign_free {q c d : Nat} (hd : d = 10 ∨ d = 13) (hq : q = 39 ∨ q = 34) : d ∉ escSign q c := by
  unfold escSign
  rcases hd with rfl | rfl <;> rcases hq with rfl | rfl <;> (repeat' split) <;> simp <;> omega
theorem escAll_free {q d : Nat} (hd : d = 10 ∨ d = 13) (hq : q = 39 ∨ q = 34) : ∀ l : List Nat, d ∉ escAll q l
  | [] => by simp [escAll]
  | c :: l => by
    have ih := escAll_free hd hq l
    have hc := escSign_free (c := c) hd hq
    simp only [escAll, List.flatMap_cons, List.mem_append, not_or] at *
    exact ⟨hc, ih⟩
theorem un_escSign {q c : Nat} (r : List Nat) (hq : q = 39 ∨ q = 34) : un (escSign q c ++ r) = (un r).map (c :: ·) := by
  unfold escSign
  by_cases h1 : c = 92
  · subst h1
    simp only [if_true, List.cons_append, List.nil_append]
    rw [un_bs, if_neg (by decide)]; rfl
  rw [if_neg h1]
  by_cases h2 : c = q
  · subst h2
    simp only [if_true, List.cons_append, List.nil_append]
    rw [un_bs]
    rcases hq with rfl | rfl
    · rw [if_neg (by decide)]; rfl
    · rw [if_neg (by decide)]; rfl
  rw [if_neg h2]
  by_cases h3 : c = 10
  · subst h3
    simp only [if_true, List.cons_append, List.nil_append]
    rw [un_bs, if_neg (by decide)]; rfl
  rw [if_neg h3]
  by_cases h4 : c = 13
  · subst h4
    simp only [if_true, List.cons_append, List.nil_append]
    rw [un_bs, if_neg (by decide)]; rfl
  rw [if_neg h4]
  by_cases h5 : c = 9
  · subst h5
    simp only [if_true, List.cons_append, List.nil_append]
    rw [un_bs, if_neg (by decide)]; rfl
  rw [if_neg h5]
  simp only [List.cons_append, List.nil_append]
  exact un_cons r h1
theorem un_escAll {q : Nat} (hq : q = 39 ∨ q = 34) : ∀ l : List Nat, un (escAll q l) = some l
  | [] => rfl
  | c :: l => by
    have ih := un_escAll hq l
    simp only [escAll, List.flatMap_cons] at *
    rw [un_escSign _ hq, ih]; rfl
theorem low_nil : Txt.lower (tx []) = tx [] := by decide +kernel
theorem low_u : Txt.lower (tx [117]) = tx [117] := by decide +kernel
theorem low_U : Txt.lower (tx [85]) = tx [117] := by decide +kernel
theorem low_r : Txt.lower (tx [114]) = tx [114] := by decide +kernel
theorem low_b : Txt.lower (tx [98]) = tx [98] := by decide +kernel
end Mine
end
section
open PySem PySem.W PyProof.Rows PySem.Calls
namespace Mine

section
variable {prog : Program} {w : World} {A : Around} {E : Value → Shared → Prop} {s : Shared} {value slice : PySem.Expr} {t u : Tok} {l P B : List Nat} {q : Nat} {i k : Int} {Q : Value → Shared → Prop}
theorem item_step (h0 : 0 ≤ i) (h1 : i < l.length) (hn : l.length ≤ 100000) (h : Q (.str (tx [l.getD i.toNat 0]) s.toks) { s with toks := s.toks + 1 })
    (hs : subscripted slice false (.str (tx l) t) (.int i u) = operate [.str (tx l) t, .int i u] (getItem (.str (tx l) t) (.int i u)) := by with_unfolding_all rfl)
    (ht : ∀ r, letTemporaryGo value (.str (tx l) t) r = pure () := by intro _; with_unfolding_all rfl) :
    wpAny (model prog w) A (subscriptTail value slice (.str (tx l) t) (.int i u)) Q E s := by
  refine KXi.item (n := l.length) (tx_length l) (by omega) h1 (by omega) (fun _ => ?_) hs ht
  rw [item_tx h0 h1]
  exact h
theorem quotes_step {D : Addr} {items : Array Value} (hq : q = 39 ∨ q = 34) (hP : ∀ c ∈ P, c ≠ 39 ∧ c ≠ 34) (h0 : 0 ≤ k) (h1 : k ≤ P.length)
    (ht : IsTup s.heap D items) (hi : StrsAre items.toList [Str.ofString "\"", Str.ofString "'"]) (h : Q (.bool (decide (k < (P.length : Int)))) s) :
    wpAny (model prog w) A (compareOp .NotIn (.str (tx [(lit P q B).getD k.toNat 0]) u) (.ref D)) Q E s := by
  refine notin_tuple_strs ht hi ?_
  rw [quote_at hq hP h0 h1]
  exact h
theorem prefix_ok {D : Addr} {items : Array Value} (hp : P = [] ∨ P = [114] ∨ P = [117])
    (ht : IsTup s.heap D items) (hi : StrsAre items.toList [Str.ofString "", Str.ofString "r", Str.ofString "u"]) (h : Q (.bool false) s) :
    wpAny (model prog w) A (compareOp .NotIn (.str (tx P) u) (.ref D)) Q E s := by
  refine notin_tuple_strs ht hi ?_
  rw [lit_empty, lit_r, lit_u]
  simp only [List.any_cons, List.any_nil, Bool.or_false, tx_beq]
  rcases hp with rfl | rfl | rfl <;> exact h
theorem prefix_bad {D : Addr} {items : Array Value} (hp : P = [98])
    (ht : IsTup s.heap D items) (hi : StrsAre items.toList [Str.ofString "", Str.ofString "r", Str.ofString "u"]) (h : Q (.bool true) s) :
    wpAny (model prog w) A (compareOp .NotIn (.str (tx P) u) (.ref D)) Q E s := by
  refine notin_tuple_strs ht hi ?_
  rw [lit_empty, lit_r, lit_u]
  simp only [List.any_cons, List.any_nil, Bool.or_false, tx_beq]
  subst hp
  exact h
theorem in_one {c : Nat} {x : Str} {b : Bool} (hx : x = tx [c]) (hb : decide (c ∈ l) = b) (h : Q (.bool b) s) : wpAny (model prog w) A (compareOp .In (.str x u) (.str (tx l) t)) Q E s := by
  refine SB.contains ?_
  rw [hx, contains_one, hb]
  exact h
theorem notin_one {c : Nat} {x : Str} (hx : x = tx [c]) (h : Q (.bool (decide (c ∉ l))) s) : wpAny (model prog w) A (compareOp .NotIn (.str x u) (.str (tx l) t)) Q E s := by
  refine SB.notContains ?_
  rw [hx, contains_one, ← decide_not]
  exact h
theorem eq_tx {y : Str} {m : List Nat} (hy : y = tx m) (h : Q (.bool (decide (l = m))) s) : wpAny (model prog w) A (compareOp .Eq (.str (tx l) t) (.str y u)) Q E s := by
  refine PyProof.Rows.eq_str ?_
  rw [hy, tx_beq]
  exact h
theorem ne_bs {c : Nat} {y : Str} (hy : y = tx [92]) (h : Q (.bool (decide (¬ c = 92))) s) : wpAny (model prog w) A (compareOp .NotEq (.str (tx [c]) t) (.str y u)) Q E s := by
  refine P.ne_str ?_
  rw [hy, tx_toList, tx_toList]
  have e : ([c] != [92]) = decide (¬ c = 92) := by
    rw [Bool.eq_iff_iff]; simp
  rw [e]
  exact h
theorem len_step (hn : l.length ≤ 100000) (h : Q (.int (l.length : Int) (s.toks + 1)) { s with toks := s.toks + 1 + 1 }) : wpAny (model prog w) A (call (.builtin "len") [.str (tx l) t]) Q E s := by
  refine P.len_str (by rw [tx_length]; omega) ?_
  rw [tx_length]
  exact h
theorem lower_step {P' : List Nat} (hn : l.length ≤ 100000) (hl : Txt.lower (tx l) = tx P') (h : Q (.str (tx P') s.toks) { s with toks := s.toks + 1 }) : wpAny (model prog w) A (call (.builtin "str.lower") [.str (tx l) t]) Q E s := by
  refine SCL.lower (by rw [tx_length]; omega) fun _ => ?_
  rw [hl]
  exact h
theorem in_bad {b : Bool} {c : Nat} (hb : decide (c ∈ badEsc) = b) (h : Q (.bool b) s) : wpAny (model prog w) A (compareOp .In (.str (tx [c]) u) (.str (Str.ofString "abfvxNuU01234567") t)) Q E s := by
  refine SB.contains ?_
  rw [bad_contains, hb]
  exact h
theorem iadd_step {x y : Str} (hsz : x.length + y.length ≤ 100000) (h : ∀ t' k, Q (.str (x ++ y) t') { s with toks := k }) : wpAny (model prog w) A (inplaceOp .Add (.str x t) (.str y u)) Q E s :=
  SB.iadd h (by rw [sizeLine_eq]; omega)
end

section
variable {prog : Program} {w : World} {A : Around} {E : Value → Shared → Prop} {s : Shared} {h₀ : Heap} {L : Addr} {m : Str → Option Value} {news : List (Addr × Obj)} {value slice : PySem.Expr} {t : Tok} {P B : List Nat} {q : Nat} {Q : Value → Shared → Prop}
theorem prefix_step {uj : Tok} {j : Int} (hj : j = (P.length : Int)) (hF : Fr h₀ L s.heap m) (hN : News h₀ L s.heap news) (hn : P.length + B.length ≤ 10000) (h : ∀ h' t' k, Fr h₀ L h' m → News h₀ L h' news → Q (.str (tx P) t') { s with heap := h', toks := k })
    (hs : subscripted slice false (.str (tx (lit P q B)) t) (.ref s.heap.objs.size) = operate [.ref s.heap.objs.size, .str (tx (lit P q B)) t] (getItem (.str (tx (lit P q B)) t) (.ref s.heap.objs.size)) := by with_unfolding_all rfl)
    (ht : ∀ r, letTemporaryGo value (.str (tx (lit P q B)) t) r = pure () := by intro _; with_unfolding_all rfl) :
    wpAny (model prog w) A (subscriptTail value slice (.str (tx (lit P q B)) t) (.ref s.heap.objs.size)) Q E { s with heap := s.heap.push { cls := .type "slice", data := .fields #[.none, .int j uj, .none] } } := by
  subst hj
  refine slice_strN_ns hF hN (fun h' t' k a b => ?_) hs ht (by rw [tx_length, lit_length, sizeLine_eq]; omega)
  rw [slice_prefix]
  exact h h' t' k a b
theorem body_step {ui uj : Tok} {j : Int} (hj : j = (P.length : Int)) (hF : Fr h₀ L s.heap m) (hN : News h₀ L s.heap news) (hn : P.length + B.length ≤ 10000) (h : ∀ h' t' k, Fr h₀ L h' m → News h₀ L h' news → Q (.str (tx B) t') { s with heap := h', toks := k })
    (hs : subscripted slice false (.str (tx (lit P q B)) t) (.ref s.heap.objs.size) = operate [.ref s.heap.objs.size, .str (tx (lit P q B)) t] (getItem (.str (tx (lit P q B)) t) (.ref s.heap.objs.size)) := by with_unfolding_all rfl)
    (ht : ∀ r, letTemporaryGo value (.str (tx (lit P q B)) t) r = pure () := by intro _; with_unfolding_all rfl) :
    wpAny (model prog w) A (subscriptTail value slice (.str (tx (lit P q B)) t) (.ref s.heap.objs.size)) Q E { s with heap := s.heap.push { cls := .type "slice", data := .fields #[.int (j + 1) ui, .int (-1) uj, .none] } } := by
  subst hj
  refine slice_strN_ss hF hN (fun h' t' k a b => ?_) hs ht (by rw [tx_length, lit_length, sizeLine_eq]; omega)
  rw [slice_body]
  exact h h' t' k a b
theorem two_step {ui uj : Tok} {k : Int} (hF : Fr h₀ L s.heap m) (hN : News h₀ L s.heap news) (h0 : 0 ≤ k) (h1 : k + 1 < B.length) (hn : B.length ≤ 100000) (h : ∀ h' t' tk, Fr h₀ L h' m → News h₀ L h' news → Q (.str (tx [B.getD k.toNat 0, B.getD (k + 1).toNat 0]) t') { s with heap := h', toks := tk })
    (hs : subscripted slice false (.str (tx B) t) (.ref s.heap.objs.size) = operate [.ref s.heap.objs.size, .str (tx B) t] (getItem (.str (tx B) t) (.ref s.heap.objs.size)) := by with_unfolding_all rfl)
    (ht : ∀ r, letTemporaryGo value (.str (tx B) t) r = pure () := by intro _; with_unfolding_all rfl) :
    wpAny (model prog w) A (subscriptTail value slice (.str (tx B) t) (.ref s.heap.objs.size)) Q E { s with heap := s.heap.push { cls := .type "slice", data := .fields #[.int k ui, .int (k + 2) uj, .none] } } := by
  refine slice_strN_ss hF hN (fun h' t' k a b => ?_) hs ht (by rw [tx_length, sizeLine_eq]; omega)
  rw [slice_two h0 h1]
  exact h h' t' k a b

/-- the table of the escapes -/
def escTab : List (Str × KTD.Dat) := [(Str.ofString "\\", .flat (.str (Str.ofString "\\"))), (Str.ofString "'", .flat (.str (Str.ofString "'"))), (Str.ofString "\"", .flat (.str (Str.ofString "\""))),
  (Str.ofString "n", .flat (.str (Str.ofString "\n"))), (Str.ofString "r", .flat (.str (Str.ofString "\r"))), (Str.ofString "t", .flat (.str (Str.ofString "\t")))]
theorem lit_n : Str.ofString "n" = tx [110] := by decide +kernel
theorem lit_t : Str.ofString "t" = tx [116] := by decide +kernel
theorem esc_there {w : World} {h : Heap} (X : (hd.heap_39 w.params).In h) : KTD.TextTab h 15 escTab := kt_text_in X (by kernel_rfl)
theorem esc_at (d : Nat) : KTD.datumAt (tx [d]) escTab = if d = 92 then some (.flat (.str (tx [92]))) else if d = 39 then some (.flat (.str (tx [39]))) else if d = 34 then some (.flat (.str (tx [34]))) else if d = 110 then some (.flat (.str (tx [10]))) else if d = 114 then some (.flat (.str (tx [13]))) else if d = 116 then some (.flat (.str (tx [9]))) else none := by
  unfold escTab
  rw [lit_bs, lit_sq, lit_dq, lit_n, lit_r, lit_t, lit_nl, lit_cr, lit_tab]
  simp only [KTD.datumAt, tx_inj, List.cons.injEq, and_true, decide_eq_true_eq]
theorem esc_step {d c : Nat} {tk t₂ : Tok} (X : (hd.heap_39 w.params).In h₀) (hF : Fr h₀ L s.heap m) (hc : c = 92) (h : ∀ t', Q (.str (tx (escOf d)) t') { s with toks := s.toks + 1 }) :
    wpAny (model prog w) A (call (.builtin "dict.get") [.ref 15, .str (tx [d]) tk, .str (tx [c, d]) t₂]) Q E s := by
  subst hc
  have T : KTD.Here h₀ s.heap 15 escTab := ⟨esc_there X, hF.keep⟩
  refine call_meetsIn PySem.F.slot_dict_get T.typeIs PySem.F.entry_dict_get (PySem.F.args_dict_get_3 _ _ _) (KTD.meets_get2 (h₀ := h₀) (D := escTab)) ⟨T, fun dd v ha hv => ?_, fun hn => ?_⟩
  · rw [esc_at] at ha
    have key : dd = .flat (.str (tx (escOf d))) := by
      unfold escOf
      (repeat' split at ha) <;> first
        | (cases ha; done)
        | (injection ha with ha; rw [← ha]; simp_all)
    subst key
    obtain ⟨t', rfl⟩ := PyProof.V.Flat.str_inv hv
    exact h t'
  · rw [esc_at] at hn
    have key : escOf d = [92, d] := by
      unfold escOf
      (repeat' split at hn) <;> first
        | (cases hn; done)
        | simp_all
    rw [key] at h
    exact h t₂
end
noncomputable abbrev lse : List Str := looseW hd.view_39 [Str.ofString "ESCAPES"]
theorem drop3 {h₀ h : Heap} {L : Addr} {news : List (Addr × Obj)} {a b c : Addr × Obj} (N : News h₀ L h (a :: b :: c :: news)) : News h₀ L h news := fun p hp => N p (.tail _ (.tail _ (.tail _ hp)))
end Mine
end
section
open PySem PySem.W PyProof.Rows PySem.Calls PyProof.V PySem.Spec
set_option maxRecDepth 100000
namespace Mine

/-- a new exception of a built-in class, however many fields it has -/
structure MadeAny (h h' : Heap) (e : Addr) (cls : String) : Prop where
  keeps : ∀ b o, h.get? b = some o → h'.get? b = some o
  new : h.get? e = none
  there : ∃ ob vs a0, h'.get? e = some ob ∧ ob.cls = .type cls ∧ ob.data = .fields vs ∧ vs[0]? = some a0 ∧ vs[1]? = some .none

theorem syn_entryNew : entryFor table "Exception.__new__" = some Builtin.«BaseException.__new__» :=
  entryFor_alias (id' := "BaseException.__new__") (by rw [fastTable_eq_tree]; kernel_rfl) (by first | rfl | decide +kernel) (by decide +kernel) (by rw [fastTable_eq_tree]; kernel_rfl)
theorem syn_sub : isSubtype (.type "SyntaxError") (.type "SyntaxError") = pure true := by rw [isSubtype_type]; kernel_rfl
theorem syn_subOwn : isSubtype (.type "SyntaxError") (.type "Exception") = pure true := by rw [isSubtype_type]; kernel_rfl
theorem syn_notAttr : isSubtype (.type "SyntaxError") (.type "AttributeError") = pure false := by rw [isSubtype_type]; kernel_rfl
theorem syn_notName : isSubtype (.type "SyntaxError") (.type "NameError") = pure false := by rw [isSubtype_type]; kernel_rfl
theorem syn_made : Bind.madeHere "BaseException.__new__" (.type "SyntaxError") = pure () := by kernel_rfl
theorem syn_notType : (Value.type "SyntaxError" == Value.type "type") = false := by decide +kernel
theorem syn_canMake : ((Manifest.find? "SyntaxError").bind fun x => List.findSome? (fun t => (Manifest.find? t).bind fun b =>
    if b.noNew = true then some true else if (b.attrs.any fun x => x.fst == "__new__") = true then some false else none) x.mro).getD false = false := by kernel_rfl
theorem syn_noVector (args : Args) : checkTypeCall "SyntaxError" args = pure () := by kernel_rfl
theorem syn_mro : mroOf (.type "SyntaxError") = pure [.type "SyntaxError", .type "Exception", .type "BaseException", .type "object"] := by rw [mroOf_type]; kernel_rfl
theorem syn_madeBy : Bind.madeBy (.type "SyntaxError") = pure (some "Exception.__new__") := by kernel_rfl
theorem syn_newOk (rest : List Value) : checkBuiltinCall "Exception.__new__" ⟨.type "SyntaxError" :: rest, []⟩ = pure () := by kernel_rfl
theorem syn_slot : Slot "SyntaxError" "__init__" "SyntaxError.__init__" := .of (owner := "SyntaxError") (n := "__init__") (by rw [typeLookup_type, builtinLookup_eq_fast]; kernel_rfl) (by decide +kernel) (by decide +kernel) (by decide +kernel)
    (by first | exact .inl (by decide +kernel) | exact .inr (by decide +kernel)) (by rw [isSubtype_type]; kernel_rfl)
theorem syn_entryInit : entryFor table "SyntaxError.__init__" = some Builtin.«SyntaxError.__init__» := by first | exact entryFor_of_fast (by kernel_rfl) | exact entryFor_of_tree (by kernel_rfl)
theorem syn_entryBase : entryFor table "BaseException.__init__" = some Builtin.«BaseException.__init__» := by first | exact entryFor_of_fast (by kernel_rfl) | exact entryFor_of_tree (by kernel_rfl)
theorem syn_split : splitId "SyntaxError.__init__" = some ("SyntaxError", "__init__") := by kernel_rfl
theorem syn_kind : builtinKind "SyntaxError.__init__" = some .slot := by kernel_rfl
theorem syn_row : Manifest.signature? "SyntaxError.__init__" = some ⟨.hand, "wrapper __init__", "", .self, []⟩ := by kernel_rfl
theorem syn_raise : ExcRaiseFacts "SyntaxError" where
  isExc := by rw [isSubtype_type]; kernel_rfl
  plainMeta := by kernel_rfl

section
variable {prog : Program} {w : World} {A : Around}

theorem syn_check {M : Model} {self : Value} {rest : List Value} {E : Value → Shared → Prop} {Q : Unit → Shared → Prop}
    {hp : Heap} {g : Array GenState} {d : Drawn} {tk : Nat} {os : OsState} (hT : Shared.TypeIs ⟨hp, g, d, tk, os⟩ self "SyntaxError") (h : Q () ⟨hp, g, d, tk, os⟩) :
    wpAny M A (checkBuiltinCall "SyntaxError.__init__" ⟨self :: rest, []⟩) Q E ⟨hp, g, d, tk, os⟩ := by
  have hsub := syn_sub
  simp only [checkBuiltinCall, syn_kind, syn_split, syn_row]
  wp_walk
  exact h

theorem syn_new {x : Value} {R : Result → Shared → Prop} {hp : Heap} {g : Array GenState} {d : Drawn} {tk : Nat} {os : OsState}
    (h : R (.ok (.ret (.ref (hp.objs.size + 1)))) ⟨(hp.push { cls := .type "tuple", data := .seq [x].toArray }).push
      { cls := .type "SyntaxError", data := .fields #[.ref hp.objs.size, .none, .none, .none, .bool false, .none] }, g, d, tk, os⟩) :
    codeAny (model prog w) A (.builtin "Exception.__new__" ⟨.type "SyntaxError" :: [x], []⟩) R ⟨hp, g, d, tk, os⟩ := by
  have hends : ("Exception.__new__" : String).endsWith ".__new__" = true := by decide +kernel
  have howner : ("Exception.__new__" : String).dropRight 8 = "Exception" := by decide +kernel
  have hentry := syn_entryNew
  have hsub := syn_subOwn
  have hna := syn_notAttr
  have hnn := syn_notName
  have hmade := syn_made
  refine codeAny_builtinAt hentry ?_
  unfold Builtin.«BaseException.__new__»
  refine _root_.PySem.wpAt_bind ?_
  show _root_.PySem.wpAt _ _ _ (stack >>= _) _ _ _
  refine _root_.PySem.wpAt_bind (_root_.PySem.wpAt_stack fun p below => _root_.PySem.wpAt_of_wpAny ?_)
  wp_walk
  refine _root_.PySem.wpAt_of_wpAny ?_
  rw [howner]
  wp_walk
  show R _ _
  rw [Heap.size_push]
  exact h

theorem syn_base {x : Value} {E : Value → Shared → Prop} {s : Shared} {e t0 : Addr} {ob : Obj} {vs : Array Value} {Q : Fin → Shared → Prop} (he : s.heap.get? e = some ob) (hd : ob.data = .fields vs) (h0 : vs[0]? = some (.ref t0))
    (h : Q (.done (.ret .none)) { s with heap := (s.heap.push { cls := .type "tuple", data := .seq #[x] }).update e (Obj.mapFields (·.setIfInBounds 0 (.ref s.heap.objs.size))) }) :
    wpAny (model prog w) A (Builtin.«BaseException.__init__» ⟨[.ref e, x], []⟩) Q E s := by
  unfold Builtin.«BaseException.__init__»
  dsimp only
  rw [if_neg (by simp)]
  unfold newTuple Builtin.BaseException.bexcPut
  have hsz : 0 < vs.size := (Array.getElem?_eq_some_iff.mp h0).1
  have he₁ := Heap.get?_push_of_some (h := s.heap) { cls := .type "tuple", data := .seq #[x] } he
  refine wpAny_bind (wpAny_newObj_type (wpAny_bind (wpAny_bind (wpAny_field he₁ hd h0 (wpAny_bind (wpAny_setField he₁ hd hsz ?_))))) (by size_fits))
  exact wpAny_letGo (wpAny_pure h)

theorem syn_init {x : Str} {tx' : Tok} {E : Value → Shared → Prop} {s : Shared} {e t0 : Addr} {Q : Value → Shared → Prop}
    (he : s.heap.get? e = some { cls := .type "SyntaxError", data := .fields #[.ref t0, .none, .none, .none, .bool false, .none] })
    (h : ∀ h' vs, h'.get? e = some { cls := .type "SyntaxError", data := .fields vs } → vs[0]? = some (.ref s.heap.objs.size) → vs[1]? = some .none →
      (∀ b o, b ≠ e → s.heap.get? b = some o → h'.get? b = some o) → Q .none { s with heap := h' }) :
    wpAny (model prog w) A (call (.builtin "SyntaxError.__init__") [.ref e, .str x tx']) Q E s := by
  have hlt := Heap.lt_size he
  have hT : s.TypeIs (.ref e) "SyntaxError" := (show ∃ o, s.heap.get? e = some o ∧ o.cls = .type "SyntaxError" from ⟨_, he, rfl⟩)
  obtain ⟨hp, g, d, tk, os⟩ := s
  refine wpAny_call (codeAny_call_builtin syn_slot.plain syn_entryInit (syn_check hT ?_))
  unfold Builtin.«SyntaxError.__init__»
  dsimp only
  refine wpAny_bind (wpAny_runValue (codeAny_builtin syn_entryBase (syn_base he rfl rfl ?_)))
  have e1 : (((hp.push { cls := .type "tuple", data := .seq #[.str x tx'] }).update e (Obj.mapFields (·.setIfInBounds 0 (.ref hp.objs.size))))).get? e = some { cls := .type "SyntaxError", data := .fields #[.ref hp.objs.size, .none, .none, .none, .bool false, .none] } := by
    rw [Heap.get?_update_self _ (Heap.get?_push_of_some _ he) rfl]
    rfl
  dsimp only
  refine wpAny_bind ?_
  unfold fieldsOf
  refine wpAny_bind (wpAny_load e1 (wpAny_pure ?_))
  rw [if_pos (by rfl)]
  refine wpAny_bind (wpAny_updateFields e1 rfl ?_ (by rw [sizeLine_eq]; exact Nat.le_of_ble_eq_true rfl))
  have e2 : (((hp.push { cls := .type "tuple", data := .seq #[.str x tx'] }).update e (Obj.mapFields (·.setIfInBounds 0 (.ref hp.objs.size)))).update e (Obj.mapFields fun x => x ++ Array.replicate 8 .none)).get? e = some { cls := .type "SyntaxError", data := .fields (#[.ref hp.objs.size, .none, .none, .none, .bool false, .none] ++ Array.replicate 8 .none) } := by
    rw [Heap.get?_update_self _ e1 rfl]
    rfl
  refine wpAny_bind ?_
  show wpAny _ _ (do let old ← field (.ref e) 6; setField (.ref e) 6 (.str x tx'); if let .ref _ := old then letGo [old] []) _ _ _
  refine wpAny_bind (wpAny_field e2 rfl (x := Value.none) (by rfl) (wpAny_bind (wpAny_setField e2 rfl (Nat.le_of_ble_eq_true rfl) (wpAny_pure ?_))))
  refine wpAny_pure ?_
  refine h _ ((#[Value.ref hp.objs.size, Value.none, Value.none, Value.none, Value.bool false, Value.none] ++ Array.replicate 8 Value.none).setIfInBounds 6 (.str x tx')) ?_ (by rfl) (by rfl) ?_
  · rw [Heap.get?_update_self _ e2 rfl]
    rfl
  · intro b o hb ho
    rw [Heap.get?_update_other _ _ (Ne.symm hb), Heap.get?_update_other _ _ (Ne.symm hb), Heap.get?_update_other _ _ (Ne.symm hb)]
    exact Heap.get?_push_of_some _ ho

theorem syn_type_call {x : Str} {tx' : Tok} {E : Value → Shared → Prop} {Q : Fin → Shared → Prop}
    {hp : Heap} {g : Array GenState} {d : Drawn} {tk : Nat} {os : OsState}
    (h : ∀ h' e, MadeAny hp h' e "SyntaxError" → Q (.done (.ret (.ref e))) ⟨h', g, d, tk, os⟩) :
    wpAny (model prog w) A (Builtin.«type.__call__» ⟨.type "SyntaxError" :: [.str x tx'], []⟩) Q E ⟨hp, g, d, tk, os⟩ := by
  have hnt := syn_notType
  have hcan := syn_canMake
  have hchk := syn_noVector ⟨[.str x tx'], []⟩
  have hmro := syn_mro
  have hmade := syn_madeBy
  wp_walk
  refine codeAny_call_builtin_code (Code.quiet_builtin _ (by decide +kernel)) (wpAny_of_eq (syn_newOk [.str x tx']) ?_)
  refine syn_new ?_
  show wpAny _ _ _ _ _ _
  have hget : ((hp.push { cls := .type "tuple", data := .seq ([.str x tx'] : List Value).toArray }).push
      { cls := .type "SyntaxError", data := .fields #[.ref hp.objs.size, .none, .none, .none, .bool false, .none] }).get? (hp.objs.size + 1) = some
      { cls := .type "SyntaxError", data := .fields #[.ref hp.objs.size, .none, .none, .none, .bool false, .none] } := by heap_get
  refine wpAny_bind (wpAny_isInstance ⟨_, hget, rfl⟩ syn_sub ?_)
  wp_step
  refine wpAny_bind (wpAny_holding (wpAny_callSpecial?_slot ⟨_, hget, rfl⟩ syn_slot (syn_init hget fun h' vs e1 e2 e3 e4 => ?_)))
  wp_walk
  refine h _ _ ⟨fun b o hb => ?_, Heap.get?_none_of_le (Nat.le_succ _), _, vs, _, e1, rfl, rfl, e2, e3⟩
  exact e4 b o (Nat.ne_of_lt (Nat.lt_succ_of_lt (Heap.lt_size hb))) (Heap.get?_push_of_some _ (Heap.get?_push_of_some _ hb))

theorem syn_call {x : Str} {tx' : Tok} {E : Value → Shared → Prop} {s : Shared} {Q : Value → Shared → Prop} (h : ∀ h' e, MadeAny s.heap h' e "SyntaxError" → Q (.ref e) { s with heap := h' }) :
    wpAny (model prog w) A (call (.type "SyntaxError") [.str x tx']) Q E s := by
  obtain ⟨hp, g, d, tk, os⟩ := s
  refine wpAny_call (codeAny_of_tree ?_)
  show wpAny _ _ (callAny (.type "SyntaxError") ⟨[.str x tx'], []⟩) _ _ _
  simp only [callAny]
  refine wpAny_pure ⟨Code.quiet_builtin _ (by decide +kernel), codeAny_builtin entry_type_call (syn_type_call fun h' e hm => ?_)⟩
  exact h h' e hm

/-- raise of a new SyntaxError -/
def SynRaisable (E : Value → Shared → Prop) (v : Value) (s₁ : Shared) : Prop := ∃ h₀ e, v = .ref e ∧ MadeAny h₀ s₁.heap e "SyntaxError" ∧ E (.ref e) s₁
theorem syn_raiseStmt {M : Model} {A : Around} {s : Shared} {env : Env} {E : Value → Shared → Prop} {x : Expr} {pos : Pos} {Q : Flow → Shared → Prop} (hh : A.handled = none)
    (h : wpAny M A (eval x env) (SynRaisable E) E s) :
    wpAny M A (exec (.Raise (some x) none pos) env) Q E s := by
  show wpAny M A (do standAt pos; raiseStmt env (some (do let v ← eval x env; standAt pos; pure v)) none) Q E s
  refine wpAny_bind (wpAny_standAt ?_)
  unfold raiseStmt
  dsimp only
  refine wpAny_bind (wpAny_bind (wpAny_mono h (fun v s₁ h₁ => wpAny_bind (wpAny_standAt (wpAny_pure ?_))) fun _ _ x => x))
  obtain ⟨h₀, e, rfl, hm, hE⟩ := h₁
  obtain ⟨ob, vs, a0, ha, hcls, hd, h0, h1⟩ := hm.there
  have hT : s₁.TypeIs (.ref e) "SyntaxError" := ⟨ob, ha, hcls⟩
  have hnt : ∀ {Q' : Bool → Shared → Prop}, Q' false s₁ → wpAny M A (isType (.ref e)) Q' E s₁ := by
    intro Q' hq
    simp only [isType, loadHead]
    refine wpAny_bind (wpAny_loadPart ha ?_)
    rw [hd]; exact wpAny_pure hq
  refine wpAny_bind (wpAny_pure ?_)
  dsimp only
  refine wpAny_bind (wpAny_holding ?_)
  unfold excFromValue isExcClass
  refine wpAny_bind (wpAny_bind (hnt ?_))
  simp only [Bool.false_eq_true, if_false]
  refine wpAny_pure ?_
  simp only [Bool.false_eq_true, if_false]
  refine wpAny_bind (wpAny_isInstance hT syn_raise.isExc ?_)
  simp only [if_true]
  refine wpAny_pure ?_
  refine wpAny_bind (hnt ?_)
  simp only [Bool.false_eq_true, if_false]
  unfold raisedInstance
  refine wpAny_bind (wpAny_bind (wpAny_typeOf hT (wpAny_bind (m := typeOf (.type "SyntaxError")) (wpAny_pure ?_))))
  rw [if_pos syn_raise.plainMeta]
  refine wpAny_pure ?_
  unfold setFlight raiseNew
  refine wpAny_bind (wpAny_bind (wpAny_field ha hd h1 ?_))
  rw [if_neg (by decide)]
  refine wpAny_pure (wpAny_bind (wpAny_handled ?_))
  rw [hh]
  first
    | exact wpAny_throw hE
    | exact wpAny_bind (wpAny_pure (wpAny_throw hE))
end
end Mine
end
section
open PySem PySem.W PyProof.Rows PySem.Calls PySem.Spec
set_option maxRecDepth 100000
namespace Mine

section
variable {M : Model} {A : Around} {E : Value → Shared → Prop} {s' : Shared} {base g h : Heap} {outer : List Env} {L a e : Addr} {m : Str → Option Value} {name : Str} {scope : Scope} {cd : Value} {Q : Unit → Shared → Prop} {news : List (Addr × Obj)}
/-- a new exception, of however many fields, leaves the frame that raised it; a frame above may catch -/
theorem leave_any {cls : String} (K : Below A base outer g) (hx : MadeAny h s'.heap e cls) (F : Fr g L h m) (N : News g L h news)
    (hQ : ∀ h', RaisedSN base g outer e (.type cls) news h' → RaisedN base outer e (.type cls) news h' → g.UpToSlots h' → Q () { s' with heap := h' }) (hk : scope.kind = .function := by rfl) :
    wpAny M (A.deeper (envOf name scope L a cd)) (leaving (envOf name scope L a cd) (.ref e)) Q E s' := by
  have KP := K.push (name := name) (a := a) (cd := cd) F hk
  let fs := (envOf name scope L a cd :: outer).filterMap (·.frame)
  let H := hideAll h fs
  have inFs : ∀ env ∈ (envOf name scope L a cd :: outer), ∀ b, env.frame = some b → b ∈ fs := fun env he b hb => List.mem_filterMap.mpr ⟨env, he, hb⟩
  have baseIn : base.StaysIn H := fun b o q => hideAll_get _ (KP.stays b o q) fun hm => by
    have := (KP.frames.mem hm).1
    rw [this] at q; cases q
  have gIn : ∀ b o, g.get? b = some o → b ∉ outer.filterMap (·.frame) → H.get? b = some o := fun b o q nm => hideAll_get _ (F.keep b o q) fun hm => by
    rcases kts_mem hm with z | z
    · rw [z, kts_self F] at q; cases q
    · exact nm z
  have newsIn : ∀ q ∈ news, H.get? q.1 = some q.2 ∧ g.get? q.1 = none ∧ base.get? q.1 = none := fun q hq => by
    have hN := N q hq
    refine ⟨hideAll_get _ hN.1 fun hm => ?_, hN.2.2, fresh_of_stays K.stays hN.2.2⟩
    obtain ⟨env, he, hf⟩ := List.mem_filterMap.mp hm
    cases he with
    | head => exact hN.2.1 (Option.some.inj hf).symm
    | tail _ he =>
      obtain ⟨o, ho, _⟩ := (K.frames.mem (List.mem_filterMap.mpr ⟨env, he, hf⟩)).2
      rw [hN.2.2] at ho; cases ho
  obtain ⟨ob, vs, a0, he, hcls, hd, h0, h1⟩ := hx.there
  have eFresh : H.get? e = none := by
    cases q : H.get? e with
    | none => rfl
    | some o =>
      have := of_hideAll _ q
      rw [hx.new] at this; cases this
  refine wpAny_leaving_firstW (a0 := a0) KP.stack ((funFrames_hide KP.frames inFs).of_keeps fun b o hb _ => ⟨o, hx.keeps b o hb, rfl⟩) rfl he (fun b o hb => hx.keeps b o (of_hideAll _ hb)) eFresh hd h1 h0 fun h' hL => ?_
  obtain ⟨k1, ⟨_, _, k2⟩, k3, k4⟩ := hL
  have R : RaisedSN base g outer e (.type cls) news h' := ⟨H, a0, baseIn, gIn, newsIn, k1, eFresh, k2, by rw [← hcls]; exact k3⟩
  exact hQ h' R R.toN (((Heap.UpToSlots.of_keeps F.keep).trans (Heap.UpToSlots.of_keeps hx.keeps)).trans k4)
end

section
variable {prog : Program} {w : World} {A₀ A : Around} {s : Shared} {base h₀ : Heap} {env : Env} {L : Addr} {m : Str → Option Value} {news : List (Addr × Obj)} {K : Frag} {p : Program} {loose : List Str} {mean : ExcName → Option Value} {mg mb : Str → Option Value}
    {R : Result → Shared → Prop} {name qual : Str} {params : Arguments} {body : List Stmt} {scope : Scope} {dV kV doc pm cdv ct oc : Value} {an od : Option Addr} {osl : Array (Option Value)} {f : Addr} {args : Args} {binds : List (Str × Value)}

/-- a def that catches, called from the only frame, which may have cells -/
theorem told_enter (B : Below A₀ base [] h₀) (F : Fr h₀ L s.heap m) (X₀ : K.In h₀) (N : News h₀ L s.heap news) (T : Top p loose mean mg mb h₀) (hA : A.frames = some [env]) (hf : env.frame = some L) (hke : env.scope.kind = .function)
    (ho : K.lookup f = some ⟨oc, od, .func (fnOf name qual params body scope dV kV doc pm an cdv ct), osl⟩) (hcd : codeIn K cdv qual = true) (hroom : A.depth < recursionLimit)
    (hbind : BindsTo s (fnOf name qual params body scope dV kV doc pm an cdv ct) args binds) (hloc : ∀ y ∈ binds, scope.names.lookup y.1 = some .local)
    (h : ∀ g L' h₁, Fr h₀ L g m → Fr g L' h₁ (fun y => binds.reverse.lookup y) → News g L' h₁ news → Below A base [env] g → K.In g → Top p loose mean mg mb g → KtsDicts ([env].filterMap (·.frame)) g →
      wpAny (model prog w) (A.deeper (envOf qual scope L' f cdv)) (execs body (envOf qual scope L' f cdv))
        (fun fl s' => LeaveS0 ([env].filterMap (·.frame)) h₀ L m g R (match fl with | .ret v => v | _ => .none) s')
        (fun e s' => wpAny (model prog w) (A.deeper (envOf qual scope L' f cdv)) (leaving (envOf qual scope L' f cdv) e) (fun _ s'' => R (.error e) s'') (fun e' s'' => R (.error e') s'') s')
        { s with heap := h₁, toks := s.toks + binds.length })
    (hco : scope.isCoroutine = false) (hgen : scope.isGenerator = false) (hk : scope.kind = .function)
    (hcell : ∀ x ∈ scope.names, x.2 ≠ .cell) : codeAny (model prog w) A (.call (.ref f) args) R s := by
  have X := X₀.keeps F.keep
  have hfs : [env].filterMap (·.frame) = [L] := by simp [hf]
  obtain ⟨FG, BG, st, -⟩ := groundX (R := R) B F N hA hf hke
  obtain ⟨oL, es, ep, hLg, hLd, hLk, hLf⟩ := FG.ns
  refine codeAny_call_def (fd := fnOf name qual params body scope dV kV doc pm an cdv ct) (body := body) (binds := binds) hroom (X _ _ ho) rfl (T.nolimit.keeps F.keep) (codeRec_of X hcd) rfl hbind hcell hloc (fun h₁ hns hk₁ => ?_) hco hgen hk
  refine wpAny_mono (h _ s.heap.objs.size h₁ FG ⟨hns, fun b o e => hk₁ b o (of_hideAll _ e), Nat.le_of_eq (hideAll_size _ _)⟩
    (fun p hp => ⟨hk₁ _ _ (N p hp).1, Nat.ne_of_lt (Heap.lt_size (N p hp).1), hideAll_none _ (List.mem_map_of_mem hp)⟩) BG (X₀.keeps st) (T.keeps st) (fun b hb => by
      rw [hfs] at hb
      cases List.mem_singleton.mp hb
      exact ⟨oL, es, ep, hLg, hLd⟩)) (fun fl s' hl => ?_) fun _ _ y => y
  obtain ⟨g', L', m', news', T', F', N', k⟩ := hl
  have nL₀ : h₀.get? L = none := kts_self F
  obtain ⟨sl, hs⟩ := T'.up hLg
  refine k ⟨⟨_, es, ep, F'.keep _ _ hs, hLd, hLk, hLf⟩, fun b o e => F'.keep b o (T'.other b o (st b o e) fun q => ?_), F.above⟩ fun p hp => ⟨(N' p hp).1, fun q => ?_, ?_⟩
  · rw [hfs] at q
    rw [List.mem_singleton.mp q, nL₀] at e; cases e
  · have := (N' p hp).2.2
    rw [q, hs] at this; cases this
  · cases q : h₀.get? p.1 with
    | none => rfl
    | some o =>
      obtain ⟨sl', hs'⟩ := T'.up (st _ _ q)
      have := (N' p hp).2.2
      rw [hs'] at this; cases this
end
end Mine
end
section
open PySem PySem.W PyProof.Rows PySem.Calls PySem.Builtin PySem.Builtin.Str
namespace Mine

theorem fold_txs : ∀ (ls : List (List Nat)) (a : List Nat), (ls.map tx).foldl (fun acc p => acc ++ (tx []).cps ++ p.cps) a.toArray = (a ++ ls.flatten).toArray
  | [], a => by simp
  | b :: ls, a => by
    rw [List.map_cons, List.foldl_cons]
    have e : a.toArray ++ (tx []).cps ++ (tx b).cps = (a ++ b).toArray := by simp [tx]
    rw [e, fold_txs ls (a ++ b)]
    simp
theorem join_txs : ∀ ls : List (List Nat), Txt.join (tx []) (ls.map tx) = tx ls.flatten
  | [] => rfl
  | a :: ls => by
    show glued (tx []) (tx a :: ls.map tx) = _
    unfold glued
    show Str.mk ((ls.map tx).foldl (fun acc p => acc ++ (tx []).cps ++ p.cps) a.toArray) = tx (a ++ ls.flatten)
    rw [fold_txs]
    rfl
theorem len_txs : ∀ ls : List (List Nat), ((ls.map tx).map (·.length)).sum = (ls.map (·.length)).sum
  | [] => rfl
  | a :: ls => by
    simp only [List.map_cons, List.sum_cons, len_txs ls, tx_length]

section
variable {prog : Program} {w : World} {A : Around} {E : Value → Shared → Prop} {s : Shared} {x : Str} {t : Tok} {D : Addr} {Q : Value → Shared → Prop}
theorem join_step {ys : List Value} (ls : List (List Nat)) (hx : x = tx []) (hl : s.heap.IsList D ys.toArray) (hc : CarriedAll ys ((ls.map tx).map PyData.str)) (hsz : (ls.map (·.length)).sum ≤ 100000)
    (h : ∀ t' k, Q (.str (tx ls.flatten) t') { s with toks := k }) : wpAny (model prog w) A (call (.builtin "str.join") [.str x t, .ref D]) Q E s := by
  subst hx
  refine join_list hl (StrsAre.of_carried hc) ?_ fun t' k => ?_
  · rw [len_txs, tx_length]
    simp only [List.length_nil, Nat.mul_zero]
    omega
  · rw [join_txs]
    exact h t' k

def stock : List Nat := [113, 32, 39, 34, 92, 10, 9, 13, 233, 35, 19990, 90]
theorem stock_at : ∀ i, i < 12 → ([Str.ofString "q", Str.ofString " ", Str.ofString "'", Str.ofString "\"", Str.ofString "\\", Str.ofString "\n", Str.ofString "\t", Str.ofString "\r", Str.ofString "é", Str.ofString "#", Str.ofString "世", Str.ofString "Z"] : List Str).getD i Str.empty = tx [stock.getD i 0] := by decide +kernel
theorem stock_mem : ∀ i, i < 12 → stock.getD i 0 ∈ stock := by decide
theorem picks (g : Int → Str) : ∀ ks : List Int, (∀ k ∈ ks, ∃ c ∈ stock, g k = tx [c]) → ∃ l : List Nat, l.length = ks.length ∧ (∀ c ∈ l, c ∈ stock) ∧ ks.map g = l.map fun c => tx [c]
  | [], _ => ⟨[], rfl, fun _ h => (nomatch h), rfl⟩
  | k :: ks, h => by
    obtain ⟨l, h1, h2, h3⟩ := picks g ks fun k hk => h k (List.mem_cons_of_mem _ hk)
    obtain ⟨c, hc, e⟩ := h k List.mem_cons_self
    refine ⟨c :: l, by simp [h1], fun c' hc' => ?_, by rw [List.map_cons, List.map_cons, e, h3]⟩
    rcases List.mem_cons.mp hc' with rfl | m
    · exact hc
    · exact h2 c' m
theorem ones_flatten : ∀ l : List Nat, (l.map fun c => [c]).flatten = l
  | [] => rfl
  | c :: l => by rw [List.map_cons, List.flatten_cons, ones_flatten l]; rfl
theorem ones_sum : ∀ l : List Nat, ((l.map fun c => [c]).map (·.length)).sum = l.length
  | [] => rfl
  | c :: l => by rw [List.map_cons, List.map_cons, List.sum_cons, ones_sum l]; simp; omega
theorem text_step {ys : List Value} {n : Int} {g : Int → Str} (hx : x = tx []) (hl : s.heap.IsList D ys.toArray) (hc : CarriedAll ys ((rangeKs 0 (n - 0).toNat).map fun k => PyData.str (g k))) (hn : n < 9)
    (hg : ∀ k, ∃ c ∈ stock, g k = tx [c]) (h : ∀ l t' k, l.length ≤ 8 → (∀ c ∈ l, c ∈ stock) → Q (.str (tx l) t') { s with toks := k }) : wpAny (model prog w) A (call (.builtin "str.join") [.str x t, .ref D]) Q E s := by
  obtain ⟨l, h1, h2, h3⟩ := picks g (rangeKs 0 (n - 0).toNat) fun k _ => hg k
  rw [rangeKs_length] at h1
  have e : (rangeKs 0 (n - 0).toNat).map (fun k => PyData.str (g k)) = ((l.map fun c => [c]).map tx).map PyData.str := by
    have e1 : (l.map fun c => [c]).map tx = l.map fun c => tx [c] := by rw [List.map_map]; rfl
    rw [e1, ← h3, List.map_map]
    rfl
  rw [e] at hc
  refine join_step (l.map fun c => [c]) hx hl hc (by rw [ones_sum]; omega) fun t' k => ?_
  rw [ones_flatten]
  exact h l t' k (by omega) h2
theorem pick_stock {x : Int} : ∃ c ∈ stock, (if (x.fmod 12).toNat < 1 + 1 + 1 + 1 + 1 + 1 + 1 + 1 + 1 + 1 + 1 + 1 then
    ([Str.ofString "q", Str.ofString " ", Str.ofString "'", Str.ofString "\"", Str.ofString "\\", Str.ofString "\n", Str.ofString "\t", Str.ofString "\r", Str.ofString "é", Str.ofString "#", Str.ofString "世", Str.ofString "Z"] : List Str).getD (x.fmod 12).toNat Str.empty else Str.empty) = tx [c] := by
  have h0 : 0 ≤ x.fmod 12 := fmod_lo _ (by decide)
  have h1 : x.fmod 12 < 12 := fmod_hi _ (by decide)
  have h2 : (x.fmod 12).toNat < 12 := by omega
  exact ⟨stock.getD (x.fmod 12).toNat 0, stock_mem _ h2, by rw [if_pos h2, stock_at _ h2]⟩
end
end Mine
end
section
open PySem PySem.W PyProof.Rows PySem.Calls PySem.Spec
set_option maxRecDepth 100000
namespace Mine
open LCg LCt

/-- what a turn of the comprehension puts in the list -/
def TxEl (news : List (Addr × Obj)) (r : List Nat) (y : Value) (news' : List (Addr × Obj)) : Prop := news' = news ∧ ∃ t : Tok, y = .str (tx r) t
def TestEnd (p : Bool) (X Y : Shared → Prop) (ok : Bool) (s' : Shared) : Prop := ok = p ∧ if ok = true then X s' else Y s'
def TxSkip (news news' : List (Addr × Obj)) : Prop := news' = news
theorem tx_el {news news' : List (Addr × Obj)} {r r' : List Nat} {y : Value} {t : Tok} (hy : y = .str (tx r') t) (hr : r' = r) (hn : news' = news) : TxEl news r y news' := ⟨hn, t, by rw [hy, hr]⟩
theorem strs_snoc {y : List Nat} {t : Tok} : ∀ {vs : List Value} {ls : List (List Nat)}, CarriedAll vs ((ls.map tx).map PyData.str) → CarriedAll (vs ++ [.str (tx y) t]) (((ls ++ [y]).map tx).map PyData.str)
  | [], [], _ => .cons (.str _ _) .nil
  | _ :: _, [], h => by cases h
  | [], _ :: _, h => by cases h
  | v :: vs, l :: ls, h => by
    cases h with
    | cons hc hr => exact .cons hc (strs_snoc hr)

section
variable {prog : Program} {w : World} {A : Around} {E : Value → Shared → Prop} {s : Shared} {h₀ : Heap} {L : Addr} {m : Str → Option Value} {env : Env}
theorem sign_tx {l : List Nat} {i : Nat} {v : Value} (h : SignAt (tx l) i v) : ∃ c u, l[i]? = some c ∧ v = .str (tx [c]) u := by
  obtain ⟨c, u, hc, hv⟩ := h
  exact ⟨c, u, by simpa [tx] using hc, hv⟩

theorem text_rest {l : List Nat} {elt : PySem.Expr} {x : Str} {scope : Scope} {cl : List (Str × Addr)} {Fin : List Value → List (Addr × Obj) → Prop} {news : List (Addr × Obj)} (f : Nat → List Nat)
    (turn : ∀ c t I oI C oC D m₂ ys h tk (E' : Value → Shared → Prop), c ∈ l → NsObj oC m₂ → m₂ x = some (.str (tx [c]) t) → Fr h₀ L h m → News h₀ L h ((I, oI) :: (C, oC) :: (D, lst ys) :: news) → Off3 I C D news → ((@Ne Nat I C) ∧ (@Ne Nat I D) ∧ (@Ne Nat C D)) →
      wpAny (model prog w) A (eval elt (compEnvC scope cl C env)) (CompEnd h₀ L m { s with heap := h, toks := tk } I oI C oC D (lst ys) (fun _ => True) (fun y news' => TxEl news (f c) y news')) E' { s with heap := h, toks := tk })
    (fin : ∀ ys, CarriedAll ys (((l.map f).map tx).map PyData.str) → Fin ys news) : CompRest prog w A h₀ L m env elt x scope cl s (fun _ => True) (SignAt (tx l)) Fin l.length 0 [] news := by
  have key : ∀ (j i : Nat) (ys : List Value), i + j = l.length → CarriedAll ys ((((l.take i).map f).map tx).map PyData.str) → CompRest prog w A h₀ L m env elt x scope cl s (fun _ => True) (SignAt (tx l)) Fin j i ys news := by
    intro j
    induction j with
    | zero =>
      intro i ys hi hy
      have e : i = l.length := by omega
      subst e
      rw [List.take_length] at hy
      exact CompRest.zero (fin ys hy)
    | succ j ih =>
      intro i ys hi hy
      refine CompRest.succ ?_
      intro v I oI C oC D m₂ h tk E' hv hC hx F N off ne
      obtain ⟨c, u, hc, hv'⟩ := sign_tx hv
      rw [hv'] at hx
      refine wpAny_mono (turn c u I oI C oC D m₂ ys h tk E' (List.mem_of_getElem? hc) hC hx F N off ne) (fun y s₂ hq => ?_) fun _ _ e => e
      obtain ⟨h', tk', nw, e, F', N', off', hS, hn, t', hy'⟩ := hq
      rw [hn] at N' off'
      refine ⟨h', tk', news, e, F', N', off', hS, ?_⟩
      rw [hy']
      refine ih (i + 1) _ (by omega) ?_
      rw [List.take_add_one, hc]
      simpa using strs_snoc hy
  exact key l.length 0 [] (by omega) (by simp only [List.take_zero, List.map_nil]; exact .nil)

theorem text_restT {l : List Nat} {ct elt : PySem.Expr} {x : Str} {scope : Scope} {cl : List (Str × Addr)} {Fin : List Value → List (Addr × Obj) → Prop} {news : List (Addr × Obj)} (p : Nat → Bool) (f : Nat → List Nat)
    (turn : ∀ c t I oI C oC D m₂ ys h tk (E' : Value → Shared → Prop), c ∈ l → NsObj oC m₂ → m₂ x = some (.str (tx [c]) t) → Fr h₀ L h m → News h₀ L h ((I, oI) :: (C, oC) :: (D, lst ys) :: news) → Off3 I C D news → ((@Ne Nat I C) ∧ (@Ne Nat I D) ∧ (@Ne Nat C D)) →
      wpAny (model prog w) A (isTrue ct (compEnvC scope cl C env) (eval ct (compEnvC scope cl C env))) (TestEnd (p c) (fun s' =>
        wpAny (model prog w) A (eval elt (compEnvC scope cl C env)) (CompEnd h₀ L m { s with heap := h, toks := tk } I oI C oC D (lst ys) (fun _ => True) (fun y news' => TxEl news (f c) y news')) E' s')
        (fun s' => CompEnd h₀ L m { s with heap := h, toks := tk } I oI C oC D (lst ys) (fun _ => True) (fun _ news' => TxSkip news news') Value.none s')) E' { s with heap := h, toks := tk })
    (fin : ∀ ys, CarriedAll ys ((((l.filter p).map f).map tx).map PyData.str) → Fin ys news) : CompRestT prog w A h₀ L m env ct elt x scope cl s (fun _ => True) (SignAt (tx l)) Fin l.length 0 [] news := by
  have key : ∀ (j i : Nat) (ys : List Value), i + j = l.length → CarriedAll ys (((((l.take i).filter p).map f).map tx).map PyData.str) → CompRestT prog w A h₀ L m env ct elt x scope cl s (fun _ => True) (SignAt (tx l)) Fin j i ys news := by
    intro j
    induction j with
    | zero =>
      intro i ys hi hy
      have e : i = l.length := by omega
      subst e
      rw [List.take_length] at hy
      exact CompRestT.zero (fin ys hy)
    | succ j ih =>
      intro i ys hi hy
      refine CompRestT.succ ?_
      intro v I oI C oC D m₂ h tk E' hv hC hx F N off ne
      obtain ⟨c, u, hc, hv'⟩ := sign_tx hv
      rw [hv'] at hx
      refine wpAny_mono (turn c u I oI C oC D m₂ ys h tk E' (List.mem_of_getElem? hc) hC hx F N off ne) (fun ok s₁ hok => ?_) fun _ _ e => e
      obtain ⟨hp, hok⟩ := hok
      cases ok with
      | true =>
        simp only [if_true] at hok ⊢
        refine wpAny_mono hok (fun y s₂ hq => ?_) fun _ _ e => e
        obtain ⟨h', tk', nw, e, F', N', off', hS, hn, t', hy'⟩ := hq
        rw [hn] at N' off'
        refine ⟨h', tk', news, e, F', N', off', hS, ?_⟩
        rw [hy']
        refine ih (i + 1) _ (by omega) ?_
        rw [List.take_add_one, hc, List.filter_append]
        simpa [← hp] using strs_snoc hy
      | false =>
        simp only [Bool.false_eq_true, if_false] at hok ⊢
        obtain ⟨h', tk', nw, e, F', N', off', hS, hn⟩ := hok
        rw [hn] at N' off'
        refine ⟨h', tk', news, e, F', N', off', hS, ?_⟩
        refine ih (i + 1) _ (by omega) ?_
        rw [List.take_add_one, hc, List.filter_append]
        simpa [← hp] using hy
  exact key l.length 0 [] (by omega) (by simp only [List.take_zero, List.filter_nil, List.map_nil]; exact .nil)

theorem striter_st {T : String} {y : Str} {t : Tok} {I : Addr} : ∀ i (h h' : Heap) (o : Obj) (nw : List (Addr × Obj)), h.IsStrIter I T y t i → h.get? I = some o → h'.get? I = some o → (∀ b o, h₀.get? b = some o → h'.get? b = some o) → News h₀ L h' nw → True → h'.IsStrIter I T y t i :=
  fun i h h' o nw st e e' _ _ _ => by
    obtain ⟨o', q, r⟩ := st
    rw [e] at q; cases q
    exact ⟨o, e', r⟩

/-- the source is a text -/
def SrcS (prog : Program) (w : World) (A : Around) (h₀ : Heap) (L : Addr) (m : Str → Option Value) (env : Env) (elt : PySem.Expr) (x : Str) (scope : Scope) (cl : List (Str × Addr)) (Fin : Shared → List Value → List (Addr × Obj) → Prop) (xv : Value) (s₁ : Shared) : Prop :=
  ∃ (l : List Nat) (t : Tok) (news : List (Addr × Obj)), xv = .str (tx l) t ∧ A.handled = none ∧ Fr h₀ L s₁.heap m ∧ News h₀ L s₁.heap news ∧ l.length ≤ 100000 ∧
    ∀ s₂ : Shared, (∃ h, s₂ = { s₁ with heap := h }) → CompRest prog w A h₀ L m env elt x scope cl s₂ (fun _ => True) (SignAt (tx l)) (Fin s₂) l.length 0 [] news
def SrcST (prog : Program) (w : World) (A : Around) (h₀ : Heap) (L : Addr) (m : Str → Option Value) (env : Env) (ct elt : PySem.Expr) (x : Str) (scope : Scope) (cl : List (Str × Addr)) (Fin : Shared → List Value → List (Addr × Obj) → Prop) (xv : Value) (s₁ : Shared) : Prop :=
  ∃ (l : List Nat) (t : Tok) (news : List (Addr × Obj)), xv = .str (tx l) t ∧ A.handled = none ∧ Fr h₀ L s₁.heap m ∧ News h₀ L s₁.heap news ∧ l.length ≤ 100000 ∧
    ∀ s₂ : Shared, (∃ h, s₂ = { s₁ with heap := h }) → CompRestT prog w A h₀ L m env ct elt x scope cl s₂ (fun _ => True) (SignAt (tx l)) (Fin s₂) l.length 0 [] news
/-- the source is a tuple of the ledger -/
def SrcTu (prog : Program) (w : World) (A : Around) (h₀ : Heap) (L : Addr) (m : Str → Option Value) (env : Env) (elt : PySem.Expr) (x : Str) (scope : Scope) (cl : List (Str × Addr)) (Fin : Shared → List Value → List (Addr × Obj) → Prop) (xv : Value) (s₁ : Shared) : Prop :=
  ∃ (ax : Addr) (its : Array Value) (news : List (Addr × Obj)), xv = .ref ax ∧ A.handled = none ∧ Fr h₀ L s₁.heap m ∧ News h₀ L s₁.heap news ∧ (ax, ({ cls := .type "tuple", data := .seq its } : Obj)) ∈ news ∧ its.size ≤ sizeLine ∧
    ∀ s₂ : Shared, (∃ h, s₂ = { s₁ with heap := h }) → CompRest prog w A h₀ L m env elt x scope cl s₂ (fun nw => (ax, ({ cls := .type "tuple", data := .seq its } : Obj)) ∈ nw) (fun i v => its[i]? = some v) (Fin s₂) its.size 0 [] news

theorem fin_rr {s₁ : Shared} {Q : Value → Shared → Prop} {o : Obj} : ∀ D C h tk m' ys news', Fr h₀ L h m → News h₀ L h ((D, lst ys) :: news') → Off1 D news' → h.Ns C m' → h₀.get? C = none → h₀.get? D = none → C ≠ L → D ≠ L → C ≠ D → (∀ p ∈ news', p.1 ≠ C) → FinE h₀ L m { s₁ with heap := s₁.heap.push o } Q ys news' →
    ∃ m', h.Ns C m' ∧ ∀ h'', Heap.SameBut C h h'' → Q (.ref D) { s₁ with heap := h'', toks := tk } :=
  fun D C h tk m' ys news' F' N' o1 hn hC₀ _ hCL _ hCD offC fin => ⟨m', hn, fun h'' hs'' => fin D h'' tk (F'.change hs'' hCL hC₀) (fun p hp => by
    refine ⟨hs''.extBut _ _ ?_ (N' p hp).1, (N' p hp).2⟩
    rcases List.mem_cons.mp hp with rfl | hp
    · exact Ne.symm hCD
    · exact offC p hp) o1⟩

theorem comp_text {elt iter : PySem.Expr} {x : Str} {px : Pos} {scope : Scope} {cl : List (Str × Addr)} {pos : Pos} {Q : Value → Shared → Prop} (_ : Fr h₀ L s.heap m)
    (hclos : closureFor scope env = pure cl) (hcell : ∀ y ∈ scope.names, y.2 ≠ .cell) (hkind : scope.kind = .function)
    (hnames : ∀ y ∈ scope.names, y.2 = .local → scope.names.lookup y.1 = some .local) (hx : scope.names.lookup x = some .local)
    (h : wpAny (model prog w) A (eval iter env) (SrcS prog w A h₀ L m env elt x scope cl (fun s₂ => FinE h₀ L m s₂ Q)) E s)
    (hs : ∀ x, foldedSetIterable iter env x = pure x := by intro _; rfl) :
    wpAny (model prog w) A (eval (.ListComp elt [⟨.Name x px, iter, [], 0⟩] scope pos) env) Q E s := by
  rw [eval_ListComp]
  refine wpAny_comprehension_free (use := none) rfl hs hclos hkind hnames (wpAny_mono h (fun xv s₁ h₁ => ?_) fun _ _ e => e)
  obtain ⟨l, t, news, rfl, hh, F, N, hsz, R⟩ := h₁
  have hsize : (tx l).cps.size = l.length := by simp [tx]
  cases ha : (tx l).cps.all (· < 128)
  · refine wpAny_pyIter_wide ha ?_
    have W := Walks.strWide (prog := prog) (w := w) hh s₁.heap.objs.size (tx l) t
    rw [hsize] at W
    refine block_U W (by rw [sizeLine_eq]; omega) (fun i h st => by obtain ⟨o, e, _⟩ := st; exact ⟨o, e⟩) striter_st hcell hkind hx ⟨_, Heap.get?_push_size _ rfl, rfl, rfl⟩ (fun b hb => ?_)
      (F.keeps fun _ _ e => Heap.get?_push_of_some _ e) (N.grown fun _ _ e => Heap.get?_push_of_some _ e) (Nat.ne_of_lt F.ns.lt) (next_is_new F) (fun p hp => Nat.ne_of_lt (Heap.lt_size (N p hp).1)) trivial (R _ ⟨_, rfl⟩) ?_
    · rw [List.mem_singleton.mp hb]
      show s₁.heap.objs.size < (s₁.heap.push _).objs.size
      rw [Heap.size_push]; exact Nat.lt_succ_self _
    · exact fin_rr
  · refine wpAny_pyIter_ascii ha ?_
    have W := Walks.strAscii (prog := prog) (w := w) hh s₁.heap.objs.size (tx l) t
    rw [hsize] at W
    refine block_U W (by rw [sizeLine_eq]; omega) (fun i h st => by obtain ⟨o, e, _⟩ := st; exact ⟨o, e⟩) striter_st hcell hkind hx ⟨_, Heap.get?_push_size _ rfl, rfl, rfl⟩ (fun b hb => ?_)
      (F.keeps fun _ _ e => Heap.get?_push_of_some _ e) (N.grown fun _ _ e => Heap.get?_push_of_some _ e) (Nat.ne_of_lt F.ns.lt) (next_is_new F) (fun p hp => Nat.ne_of_lt (Heap.lt_size (N p hp).1)) trivial (R _ ⟨_, rfl⟩) ?_
    · rw [List.mem_singleton.mp hb]
      show s₁.heap.objs.size < (s₁.heap.push _).objs.size
      rw [Heap.size_push]; exact Nat.lt_succ_self _
    · exact fin_rr

theorem comp_textT {ct elt iter : PySem.Expr} {x : Str} {px : Pos} {scope : Scope} {cl : List (Str × Addr)} {pos : Pos} {Q : Value → Shared → Prop} (_ : Fr h₀ L s.heap m)
    (hclos : closureFor scope env = pure cl) (hcell : ∀ y ∈ scope.names, y.2 ≠ .cell) (hkind : scope.kind = .function)
    (hnames : ∀ y ∈ scope.names, y.2 = .local → scope.names.lookup y.1 = some .local) (hx : scope.names.lookup x = some .local)
    (h : wpAny (model prog w) A (eval iter env) (SrcST prog w A h₀ L m env ct elt x scope cl (fun s₂ => FinE h₀ L m s₂ Q)) E s)
    (hs : ∀ x, foldedSetIterable iter env x = pure x := by intro _; rfl) :
    wpAny (model prog w) A (eval (.ListComp elt [⟨.Name x px, iter, [ct], 0⟩] scope pos) env) Q E s := by
  rw [eval_ListComp]
  refine wpAny_comprehension_free (use := none) rfl hs hclos hkind hnames (wpAny_mono h (fun xv s₁ h₁ => ?_) fun _ _ e => e)
  obtain ⟨l, t, news, rfl, hh, F, N, hsz, R⟩ := h₁
  have hsize : (tx l).cps.size = l.length := by simp [tx]
  cases ha : (tx l).cps.all (· < 128)
  · refine wpAny_pyIter_wide ha ?_
    have W := Walks.strWide (prog := prog) (w := w) hh s₁.heap.objs.size (tx l) t
    rw [hsize] at W
    refine block_T W (by rw [sizeLine_eq]; omega) (fun i h st => by obtain ⟨o, e, _⟩ := st; exact ⟨o, e⟩) striter_st hcell hkind hx ⟨_, Heap.get?_push_size _ rfl, rfl, rfl⟩ (fun b hb => ?_)
      (F.keeps fun _ _ e => Heap.get?_push_of_some _ e) (N.grown fun _ _ e => Heap.get?_push_of_some _ e) (Nat.ne_of_lt F.ns.lt) (next_is_new F) (fun p hp => Nat.ne_of_lt (Heap.lt_size (N p hp).1)) trivial (R _ ⟨_, rfl⟩) ?_
    · rw [List.mem_singleton.mp hb]
      show s₁.heap.objs.size < (s₁.heap.push _).objs.size
      rw [Heap.size_push]; exact Nat.lt_succ_self _
    · exact fin_rr
  · refine wpAny_pyIter_ascii ha ?_
    have W := Walks.strAscii (prog := prog) (w := w) hh s₁.heap.objs.size (tx l) t
    rw [hsize] at W
    refine block_T W (by rw [sizeLine_eq]; omega) (fun i h st => by obtain ⟨o, e, _⟩ := st; exact ⟨o, e⟩) striter_st hcell hkind hx ⟨_, Heap.get?_push_size _ rfl, rfl, rfl⟩ (fun b hb => ?_)
      (F.keeps fun _ _ e => Heap.get?_push_of_some _ e) (N.grown fun _ _ e => Heap.get?_push_of_some _ e) (Nat.ne_of_lt F.ns.lt) (next_is_new F) (fun p hp => Nat.ne_of_lt (Heap.lt_size (N p hp).1)) trivial (R _ ⟨_, rfl⟩) ?_
    · rw [List.mem_singleton.mp hb]
      show s₁.heap.objs.size < (s₁.heap.push _).objs.size
      rw [Heap.size_push]; exact Nat.lt_succ_self _
    · exact fin_rr

theorem tuple_st {ax I : Addr} {its : Array Value} : ∀ i (h h' : Heap) (o : Obj) (nw : List (Addr × Obj)), (h.IsTupleIter I ax i ∧ h.IsTuple ax its) → h.get? I = some o → h'.get? I = some o → (∀ b o, h₀.get? b = some o → h'.get? b = some o) → News h₀ L h' nw → (ax, ({ cls := .type "tuple", data := .seq its } : Obj)) ∈ nw → (h'.IsTupleIter I ax i ∧ h'.IsTuple ax its) :=
  fun i h h' o nw st e e' k N S => ⟨by obtain ⟨o', q, r⟩ := st.1; rw [e] at q; cases q; exact ⟨o, e', r⟩, ⟨_, (N _ S).1, rfl, _, rfl⟩⟩
theorem comp_tuple {elt iter : PySem.Expr} {x : Str} {px : Pos} {scope : Scope} {cl : List (Str × Addr)} {pos : Pos} {Q : Value → Shared → Prop} (_ : Fr h₀ L s.heap m)
    (hclos : closureFor scope env = pure cl) (hcell : ∀ y ∈ scope.names, y.2 ≠ .cell) (hkind : scope.kind = .function)
    (hnames : ∀ y ∈ scope.names, y.2 = .local → scope.names.lookup y.1 = some .local) (hx : scope.names.lookup x = some .local)
    (h : wpAny (model prog w) A (eval iter env) (SrcTu prog w A h₀ L m env elt x scope cl (fun s₂ => FinE h₀ L m s₂ Q)) E s)
    (hs : ∀ x, foldedSetIterable iter env x = pure x := by intro _; rfl) :
    wpAny (model prog w) A (eval (.ListComp elt [⟨.Name x px, iter, [], 0⟩] scope pos) env) Q E s := by
  rw [eval_ListComp]
  refine wpAny_comprehension_free (use := none) rfl hs hclos hkind hnames (wpAny_mono h (fun xv s₁ h₁ => ?_) fun _ _ e => e)
  obtain ⟨ax, its, news, rfl, hh, F, N, S, hsz, R⟩ := h₁
  have hl : s₁.heap.IsTuple ax its := ⟨_, (N _ S).1, rfl, _, rfl⟩
  have hlt : ax < s₁.heap.objs.size := Heap.lt_size (N _ S).1
  refine wpAny_pyIter_tuple hl ?_
  have up : ∀ b o, s₁.heap.get? b = some o → (s₁.heap.push { cls := .type "tuple_iterator", data := .fields #[.ref ax, .int 0 0] }).get? b = some o := fun b o e => Heap.get?_push_of_some _ e
  refine block_U (Walks.tuple hh s₁.heap.objs.size ax (Nat.ne_of_lt hlt) its) hsz (fun i h st => by obtain ⟨o, e, _⟩ := st.1; exact ⟨o, e⟩) tuple_st hcell hkind hx ⟨⟨_, Heap.get?_push_size _ rfl, rfl, rfl⟩, ⟨_, up _ _ (N _ S).1, rfl, _, rfl⟩⟩ (fun b hb => ?_)
    (F.keeps up) (N.grown up) (Nat.ne_of_lt F.ns.lt) (next_is_new F) (fun p hp => Nat.ne_of_lt (Heap.lt_size (N p hp).1)) S (R _ ⟨_, rfl⟩) ?_
  · show b < (s₁.heap.push _).objs.size
    rw [Heap.size_push]
    rcases List.mem_cons.mp hb with rfl | hb
    · exact Nat.lt_succ_self _
    · rw [List.mem_singleton.mp hb]; exact Nat.lt_succ_of_lt hlt
  · exact fin_rr
end
end Mine
end
section
open PySem PySem.W PyProof.Rows PySem.Calls PySem.Spec
namespace Mine
theorem text_ok {l : List Nat} (h : ∀ c ∈ l, c ∈ stock) : PyData.strOk (tx l) = true := by
  unfold PyData.strOk
  have hb : ∀ c ∈ stock, c < 0x110000 := by decide
  simp only [tx, List.all_toArray, List.all_eq_true, decide_eq_true_eq]
  exact fun c hc => hb c (h c hc)
theorem ne_three {prog : Program} {w : World} {A : Around} {E : Value → Shared → Prop} {s : Shared} {a b : Value} {as bs : List Addr} {l : List Nat} {Q : Value → Shared → Prop} (hs : ∀ c ∈ l, c ∈ stock)
    (ra : Reads s.heap a (.list [.str (tx l), .str (tx l), .str (tx l)]) as) (rb : Reads s.heap b (.list [.str (tx l), .str (tx l), .str (tx l)]) bs) (hu : A.units + 64 < cLine) (h : Q (.bool false) s) :
    wpAny (model prog w) A (compareOp .NotEq a b) Q E s := by
  have hk := text_ok hs
  have hsh : SeqAt.shaped (.list [.str (tx l), .str (tx l), .str (tx l)]) = true := by
    simp [SeqAt.shaped, PyData.canLay0, PyData.canLayAll0, hk, PyData.depth, PyData.depthAll]
  refine ne_dataH ra rb hsh hsh hu ?_
  rw [show PyData.eqv (.list [.str (tx l), .str (tx l), .str (tx l)]) (.list [.str (tx l), .str (tx l), .str (tx l)]) = true by simp [PyData.eqv, PyData.eqvAll]]
  exact h
/-- the signs that the law keeps -/
def keep (q c : Nat) : Bool := decide (c ∉ cat [10, 13, 92] [q])
theorem keep_not {q d : Nat} (hd : d = 10 ∨ d = 13 ∨ d = 92) (l : List Nat) : d ∉ l.filter (keep q) := fun h => by
  have := (List.mem_filter.mp h).2
  unfold keep cat at this
  rcases hd with rfl | rfl | rfl <;> simp at this
theorem plain_step {prog : Program} {w : World} {A : Around} {E : Value → Shared → Prop} {s : Shared} {x : Str} {t : Tok} {D : Addr} {Q : Value → Shared → Prop} {ys : List Value} {l : List Nat} {q : Nat} (hx : x = tx []) (hl : s.heap.IsList D ys.toArray)
    (hc : CarriedAll ys ((((l.filter (keep q)).map fun c => [c]).map tx).map PyData.str)) (hlen : l.length ≤ 8)
    (h : ∀ B t' k, B.length ≤ 8 → 10 ∉ B → 13 ∉ B → 92 ∉ B → Q (.str (tx B) t') { s with toks := k }) : wpAny (model prog w) A (call (.builtin "str.join") [.str x t, .ref D]) Q E s := by
  have hf := List.length_filter_le (keep q) l
  refine join_step ((l.filter (keep q)).map fun c => [c]) hx hl hc (by rw [ones_sum]; omega) fun t' k => ?_
  rw [ones_flatten]
  exact h _ t' k (by omega) (keep_not (.inl rfl) l) (keep_not (.inr (.inl rfl)) l) (keep_not (.inr (.inr rfl)) l)
theorem comp_end {h₀ h' : Heap} {L I C D : Addr} {m : Str → Option Value} {s₁ : Shared} {oI oC oD : Obj} {S : List (Addr × Obj) → Prop} {rest : Value → List (Addr × Obj) → Prop} {y : Value} {tk : Nat} {news' : List (Addr × Obj)}
    (F : Fr h₀ L h' m) (N : News h₀ L h' ((I, oI) :: (C, oC) :: (D, oD) :: news')) (off : LCg.Off3 I C D news') (hS : S news') (r : rest y news') : LCg.CompEnd h₀ L m s₁ I oI C oC D oD S rest y { s₁ with heap := h', toks := tk } := ⟨h', tk, news', rfl, F, N, off, hS, r⟩
end Mine
end
section
open PySem PySem.W PyProof.Rows PySem.Calls
namespace Mine

section
local macro_rules | `(tactic| walk_at "subscriptTail Name Name str int") => `(tactic| (k_here; refine' item_step ?k0 ?k1 ?k2 ?_; (case k0 => first | omega | exact wok_ge (by assumption) | exact wbad_ge (by assumption)); (case k1 => first | omega | (rw [lit_length]; omega)); (case k2 => first | omega | (rw [lit_length]; omega))))
local macro_rules | `(tactic| walk_at "subscriptTail Name BinOp str int") => `(tactic| (k_here; refine' item_step ?k0 ?k1 ?k2 ?_; (case k0 => first | omega | exact wok_ge1 (by assumption) | exact wbad_ge1 (by assumption)); (case k1 => first | omega | exact wok_next (by assumption) (by assumption) (by assumption) | exact wbad_next (by assumption) (by assumption) (by assumption)); (case k2 => omega)))
local macro_rules | `(tactic| walk_at "subscriptTail Name Slice str ref") => `(tactic| (k_here; (with_reducible rename Fr _ _ _ _ => F'); (with_reducible rename News _ _ _ _ => N'); first
  | (refine prefix_step (s := ⟨_, _, _, _, _⟩) (by omega) F' N' (by omega) ?_; intro h' t' k' F' N')
  | (refine body_step (s := ⟨_, _, _, _, _⟩) (by omega) F' N' (by omega) ?_; intro h' t' k' F' N')
  | (refine two_step (s := ⟨_, _, _, _, _⟩) F' N' (wok_ge (by assumption)) (wok_next (by assumption) (by assumption) (by assumption)) (by omega) ?_; intro h' t' k' F' N')
  | (refine two_step (s := ⟨_, _, _, _, _⟩) F' N' (wbad_ge (by assumption)) (wbad_next (by assumption) (by assumption) (by assumption)) (by omega) ?_; intro h' t' k' F' N')))
local macro_rules | `(tactic| walk_at "compareOp NotIn str ref") => `(tactic| (k_here; first
  | ((with_reducible show wpAny _ _ (compareOp CmpOp.NotIn (Value.str (tx [_]) _) (Value.ref _)) _ _ _); with_unfolding_all (refine' quotes_step ?k1 ?k2 ?k3 ?k4 ?k5 ?k6 ?_; (case k1 => assumption); (case k2 => assumption); (case k3 => assumption); (case k4 => assumption); (case k5 => exact News.isTup (by k_asm) (by news_mem)); (case k6 => kde_strs); k_whole))
  | ((with_reducible show wpAny _ _ (compareOp CmpOp.NotIn (Value.str (tx _) _) (Value.ref _)) _ _ _); with_unfolding_all (refine' prefix_ok ?k1 ?k5 ?k6 ?_; (case k1 => assumption); (case k5 => exact News.isTup (by k_asm) (by news_mem)); (case k6 => kde_strs); k_whole))
  | ((with_reducible show wpAny _ _ (compareOp CmpOp.NotIn (Value.str (tx _) _) (Value.ref _)) _ _ _); with_unfolding_all (refine' prefix_bad ?k1 ?k5 ?k6 ?_; (case k1 => assumption); (case k5 => exact News.isTup (by k_asm) (by news_mem)); (case k6 => kde_strs); k_whole))))
local macro_rules | `(tactic| walk_at "call builtin:str.lower") => `(tactic| (k_here; refine' lower_step ?k1 ?k2 ?_; (case k1 => omega); (case k2 => assumption)))
local macro_rules | `(tactic| walk_at "compareOp In str str") => `(tactic| (k_here; first
  | (refine' in_one lit_nl ?k1 ?_; (case k1 => first | exact decide_eq_false (by assumption) | exact decide_eq_true (by assumption)))
  | (refine' in_one lit_cr ?k1 ?_; (case k1 => exact decide_eq_false (by assumption)))
  | (refine' in_bad ?k1 ?_; (case k1 => exact decide_eq_false (wok_good (by assumption) (by assumption) (by assumption))))
  | (refine' in_bad ?k1 ?_; (case k1 => exact rfl))))
local macro_rules | `(tactic| walk_at "compareOp NotIn str str") => `(tactic| (k_here; refine' notin_one lit_bs ?_))
local macro_rules | `(tactic| walk_at "compareOp Eq str str") => `(tactic| (k_here; refine' eq_tx lit_r ?_))
local macro_rules | `(tactic| walk_at "compareOp NotEq str str") => `(tactic| (k_here; refine' ne_bs lit_bs ?_))
local macro_rules | `(tactic| walk_at "call builtin:len") => `(tactic| (k_here; refine' len_step ?k1 ?_; (case k1 => omega)))
local macro_rules | `(tactic| walk_at "call builtin:dict.get") => `(tactic| (k_here; refine' esc_step ?k1 ?k2 ?k3 ?_; (case k1 => assumption); (case k2 => assumption); (case k3 => exact Decidable.not_not.mp (by assumption)); intro t'))
local macro_rules | `(tactic| walk_at "inplaceOp Add str str") => `(tactic| (k_here; refine' iadd_step ?k1 ?_; (case k1 => first | exact wok_size1 (by assumption) (by assumption) | exact wok_size2 (by assumption) (by assumption) | exact wbad_size1 (by assumption) (by assumption) | exact wbad_size2 (by assumption) (by assumption)); intro t' k'))
set_option maxRecDepth 100000 in
set_option maxHeartbeats 2000000 in
theorem ev_ok {w : World} {mean : ExcName → Option Value} {mg mb : Str → Option Value} {dp un' : Nat} {gd : Option (List Code)} {cn : Str} {cs : Scope} {a : Addr} {ccd : Value} {cl : List (Str × Addr)} {outer : List Env} {A₀ : Around} {base h₀ : Heap} {L : Addr} {m : Str → Option Value} {s : Shared} {Q E : Value → Shared → Prop} {news : List (Addr × Obj)}
  (P P' B R : List Nat) (q : Nat) (t : Tok)
  (hq : q = 39 ∨ q = 34) (hP : ∀ c ∈ P, c ≠ 39 ∧ c ≠ 34) (hlow : Txt.lower (tx P) = tx P') (hlen : P.length + B.length ≤ 1000) (hR : R.length ≤ 1000)
  (hp' : P' = [] ∨ P' = [114] ∨ P' = [117]) (h10 : 10 ∉ B) (h13 : 13 ∉ B) (hraw : P' = [114] → R = B) (hun : ¬ P' = [114] → un B = some R)
  (hB : Below A₀ base outer h₀) (F : Fr h₀ L s.heap m) (XK : (hd.heap_39 w.params).In h₀) (N : News h₀ L s.heap news) (T : Top hd.view_39 lse mean mg mb h₀) (hk : cs.kind = .function)
  (hdp : dp + 1 < recursionLimit) (hu : un' + 8 < cLine)
  (hret : ∀ t h' tk', Fr h₀ L h' m → News h₀ L h' news → Q (.str (tx R) t) { s with heap := h', toks := tk' }) :
  wpAny (model PySem.Challenge.rw_bm0011_01.row.prog w) (ktrTop dp un' gd cn cs L a ccd cl outer) (call (.ref 22) [.str (tx (lit P q B)) t]) Q E s := by
  revert XK; k_fill; intro XK
  refine wpAny_call ?_
  k_dflt cell_enter
  k_with "exec While Compare cons nil" => (first | ((with_reducible show wpAny _ _ (exec (Stmt.While (Expr.Compare _ [CmpOp.NotIn] _ _) _ _ _) _) _ _ _); k_while (fun _ start => 0 ≤ start ∧ start ≤ (P.length : Int)) (fun _ start => ((P.length : Int) - start).toNat) "start") | ((with_reducible show wpAny _ _ (exec (Stmt.While (Expr.Compare _ [CmpOp.Lt] _ _) _ _ _) _) _ _ _); k_while (fun _ value k => Wok B R value k) (fun _ _ k => ((B.length : Int) - k).toNat) "value" "k"))
  k_with "state" => (first | exact wok_start (hun (by assumption)) | exact wok_plain (by assumption) (by assumption) (by assumption) | exact wok_esc (by assumption) (by assumption) (by assumption))
  k_steps
  · rw [hraw (by assumption)] at hret
    exact hret _ _ _ (by assumption) (drop3 (by assumption))
  · have e := hun (by assumption)
    rw [un_free (by assumption)] at e
    cases e
    exact hret _ _ _ (by assumption) (drop3 (by assumption))
  · rename Wok _ _ _ _ => W
    rw [wok_end W (by assumption)]
    exact hret _ _ _ (by assumption) (drop3 (by assumption))
end
end Mine
end
section
open PySem PySem.W PyProof.Rows PySem.Calls
namespace Mine
section
local macro_rules | `(tactic| walk_at "subscriptTail Name Name str int") => `(tactic| (k_here; refine' item_step ?k0 ?k1 ?k2 ?_; (case k0 => first | omega | exact wok_ge (by assumption) | exact wbad_ge (by assumption)); (case k1 => first | omega | (rw [lit_length]; omega)); (case k2 => first | omega | (rw [lit_length]; omega))))
local macro_rules | `(tactic| walk_at "subscriptTail Name BinOp str int") => `(tactic| (k_here; refine' item_step ?k0 ?k1 ?k2 ?_; (case k0 => first | omega | exact wok_ge1 (by assumption) | exact wbad_ge1 (by assumption)); (case k1 => first | omega | exact wok_next (by assumption) (by assumption) (by assumption) | exact wbad_next (by assumption) (by assumption) (by assumption)); (case k2 => omega)))
local macro_rules | `(tactic| walk_at "subscriptTail Name Slice str ref") => `(tactic| (k_here; (with_reducible rename Fr _ _ _ _ => F'); (with_reducible rename News _ _ _ _ => N'); first
  | (refine prefix_step (s := ⟨_, _, _, _, _⟩) (by omega) F' N' (by omega) ?_; intro h' t' k' F' N')
  | (refine body_step (s := ⟨_, _, _, _, _⟩) (by omega) F' N' (by omega) ?_; intro h' t' k' F' N')
  | (refine two_step (s := ⟨_, _, _, _, _⟩) F' N' (wok_ge (by assumption)) (wok_next (by assumption) (by assumption) (by assumption)) (by omega) ?_; intro h' t' k' F' N')
  | (refine two_step (s := ⟨_, _, _, _, _⟩) F' N' (wbad_ge (by assumption)) (wbad_next (by assumption) (by assumption) (by assumption)) (by omega) ?_; intro h' t' k' F' N')))
local macro_rules | `(tactic| walk_at "compareOp NotIn str ref") => `(tactic| (k_here; first
  | ((with_reducible show wpAny _ _ (compareOp CmpOp.NotIn (Value.str (tx [_]) _) (Value.ref _)) _ _ _); with_unfolding_all (refine' quotes_step ?k1 ?k2 ?k3 ?k4 ?k5 ?k6 ?_; (case k1 => assumption); (case k2 => assumption); (case k3 => assumption); (case k4 => assumption); (case k5 => exact News.isTup (by k_asm) (by news_mem)); (case k6 => kde_strs); k_whole))
  | ((with_reducible show wpAny _ _ (compareOp CmpOp.NotIn (Value.str (tx _) _) (Value.ref _)) _ _ _); with_unfolding_all (refine' prefix_ok ?k1 ?k5 ?k6 ?_; (case k1 => assumption); (case k5 => exact News.isTup (by k_asm) (by news_mem)); (case k6 => kde_strs); k_whole))
  | ((with_reducible show wpAny _ _ (compareOp CmpOp.NotIn (Value.str (tx _) _) (Value.ref _)) _ _ _); with_unfolding_all (refine' prefix_bad ?k1 ?k5 ?k6 ?_; (case k1 => assumption); (case k5 => exact News.isTup (by k_asm) (by news_mem)); (case k6 => kde_strs); k_whole))))
local macro_rules | `(tactic| walk_at "call builtin:str.lower") => `(tactic| (k_here; refine' lower_step ?k1 ?k2 ?_; (case k1 => omega); (case k2 => assumption)))
local macro_rules | `(tactic| walk_at "compareOp In str str") => `(tactic| (k_here; first
  | (refine' in_one lit_nl ?k1 ?_; (case k1 => first | exact decide_eq_false (by assumption) | exact decide_eq_true (by assumption)))
  | (refine' in_one lit_cr ?k1 ?_; (case k1 => exact decide_eq_false (by assumption)))
  | (refine' in_bad ?k1 ?_; (case k1 => exact decide_eq_false (wok_good (by assumption) (by assumption) (by assumption))))
  | (refine' in_bad ?k1 ?_; (case k1 => exact rfl))))
local macro_rules | `(tactic| walk_at "compareOp NotIn str str") => `(tactic| (k_here; refine' notin_one lit_bs ?_))
local macro_rules | `(tactic| walk_at "compareOp Eq str str") => `(tactic| (k_here; refine' eq_tx lit_r ?_))
local macro_rules | `(tactic| walk_at "compareOp NotEq str str") => `(tactic| (k_here; refine' ne_bs lit_bs ?_))
local macro_rules | `(tactic| walk_at "call builtin:len") => `(tactic| (k_here; refine' len_step ?k1 ?_; (case k1 => omega)))
local macro_rules | `(tactic| walk_at "call builtin:dict.get") => `(tactic| (k_here; refine' esc_step ?k1 ?k2 ?k3 ?_; (case k1 => assumption); (case k2 => assumption); (case k3 => exact Decidable.not_not.mp (by assumption)); intro t'))
local macro_rules | `(tactic| walk_at "inplaceOp Add str str") => `(tactic| (k_here; refine' iadd_step ?k1 ?_; (case k1 => first | exact wok_size1 (by assumption) (by assumption) | exact wok_size2 (by assumption) (by assumption) | exact wbad_size1 (by assumption) (by assumption) | exact wbad_size2 (by assumption) (by assumption)); intro t' k'))
local macro_rules | `(tactic| walk_at "exec Raise some none") => `(tactic| (k_here; (with_reducible show wpAny _ _ (exec (Stmt.Raise (some (Expr.Call (Expr.Name ("SyntaxError" : Str) _) _ _ _)) none _) _) _ _ _); refine' syn_raiseStmt ?k1 ?_; (case k1 => k_dflt (exact rfl))))
local macro_rules | `(tactic| walk_at "call type:SyntaxError") => `(tactic| (k_here; refine syn_call ?_; intro h' e' hm'))
local macro_rules | `(tactic| walk_at "leaving ref") => `(tactic| (k_here; (with_reducible rename MadeAny _ _ _ _ => hx'); refine' leave_any ?k1 hx' ?k2 ?k3 ?_; (case k2 => assumption); (case k1 => assumption); (case k3 => k_asm); k_whole; intro h' S' R' U'; (try dsimp only at S' R' U' ⊢)))
local macro_rules | `(tactic| walk_at "SynRaisable") => `(tactic| (refine ⟨_, _, rfl, by assumption, ?_⟩))

local macro_rules | `(tactic| walk_at "call ref") => `(tactic| (k_here; refine wpAny_call ?_; k_dflt (refine' code_def ?k1 ?k2 ?k3 ?k4 ?k5 ?kA ?kF ?kK ?k6 ?k7 ?k8 ?k9 ?kB ?_ ?c2 ?c3 ?c4 ?c5; (case kA => exact rfl); (case kF => exact rfl); (case kK => exact rfl); (case k1 => k_asm); (case k2 => k_asm); (case k3 => k_asm); (case k4 => k_asm); (case k5 => k_asm); (case k6 => k_is); (case k7 => k_is); (case k8 => ktr_room); (case k9 => exact BindsTo.of_eq rfl); (case c5 => decide); (case kB => exact locs rfl); (case c2 => exact rfl); (case c3 => exact rfl); (case c4 => exact rfl); k_whole; intro g' L' h' FG' F' N' B' X' T'; (try dsimp only); (try k_lift B'); (try k_fold))))
set_option maxRecDepth 100000 in
set_option maxHeartbeats 2000000 in
theorem told_b {w : World} {mean : ExcName → Option Value} {mg mb : Str → Option Value} {dp un' : Nat} {gd : Option (List Code)} {cn : Str} {cs : Scope} {a : Addr} {ccd : Value} {cl : List (Str × Addr)} {A₀ : Around} {base h₀ : Heap} {L : Addr} {m : Str → Option Value} {s : Shared} {Q E : Value → Shared → Prop} {news : List (Addr × Obj)}
  (P P' B : List Nat) (q : Nat) (t : Tok)
  (hq : q = 39 ∨ q = 34) (hP : ∀ c ∈ P, c ≠ 39 ∧ c ≠ 34) (hlow : Txt.lower (tx P) = tx P') (hlen : P.length + B.length ≤ 1000)
  (hp' : P' = [98])
  (XB : (hd.heap_39 w.params).In base) (TB : Top hd.view_39 lse mean mg mb base)
  (hB : Below A₀ base [] h₀) (F : Fr h₀ L s.heap m) (XK : (hd.heap_39 w.params).In h₀) (N : News h₀ L s.heap news) (T : Top hd.view_39 lse mean mg mb h₀) (hk : cs.kind = .function)
  (hdp : dp + 2 < recursionLimit) (hu : un' + 20 < cLine)
  (hret : ∀ t h' tk', Fr h₀ L h' m → News h₀ L h' news → Q (.str (Str.ofString "other") t) { s with heap := h', toks := tk' }) :
  wpAny (model PySem.Challenge.rw_bm0011_01.row.prog w) (ktrTop dp un' gd cn cs L a ccd cl []) (call (.ref 41) [.str (tx (lit P q B)) t]) Q E s := by
  have hBl : B.length ≤ 1000 := by omega
  have hXl : (tx (lit P q B)).length ≤ 1000000 := by rw [tx_length, lit_length]; omega
  revert XK; k_fill; intro XK
  refine wpAny_call ?_
  k_dflt (refine' told_enter ?k1 ?k2 ?k3 ?k4 ?k5 ?kA ?kf ?ke ?k6 ?k7 ?k8 ?k9 ?kB ?_ ?c2 ?c3 ?c4 ?c5; (case kA => exact rfl); (case kf => exact rfl); (case ke => assumption); (case k2 => k_asm); (case k1 => k_asm); (case k3 => k_asm); (case k4 => k_asm); (case k5 => k_asm); (case k6 => k_is); (case k7 => k_is); (case k8 => ktr_room); (case k9 => exact BindsTo.of_eq rfl); (case kB => exact locs rfl); (case c2 => exact rfl); (case c3 => exact rfl); (case c4 => exact rfl); (case c5 => decide); k_whole; intro g' L' h' FG' F' N' B' X' T' D'; (try dsimp only); (try k_lift B'); (try k_fold))
  k_with "exec While Compare cons nil" => (first | ((with_reducible show wpAny _ _ (exec (Stmt.While (Expr.Compare _ [CmpOp.NotIn] _ _) _ _ _) _) _ _ _); k_while (fun _ start => 0 ≤ start ∧ start ≤ (P.length : Int)) (fun _ start => ((P.length : Int) - start).toNat) "start"))
  k_steps
  exact hret _ _ _ (by assumption) (drop3 (by assumption))
set_option maxRecDepth 100000 in
set_option maxHeartbeats 2000000 in
theorem told_line {w : World} {mean : ExcName → Option Value} {mg mb : Str → Option Value} {dp un' : Nat} {gd : Option (List Code)} {cn : Str} {cs : Scope} {a : Addr} {ccd : Value} {cl : List (Str × Addr)} {A₀ : Around} {base h₀ : Heap} {L : Addr} {m : Str → Option Value} {s : Shared} {Q E : Value → Shared → Prop} {news : List (Addr × Obj)}
  (P B : List Nat) (q : Nat) (t : Tok)
  (hq : q = 39 ∨ q = 34) (hP : ∀ c ∈ P, c ≠ 39 ∧ c ≠ 34) (hlow : Txt.lower (tx P) = tx []) (hlen : P.length + B.length ≤ 1000)
  (hp' : ([] : List Nat) = [] ∨ ([] : List Nat) = [114] ∨ ([] : List Nat) = [117]) (h10 : 10 ∈ B)
  (XB : (hd.heap_39 w.params).In base) (TB : Top hd.view_39 lse mean mg mb base)
  (hB : Below A₀ base [] h₀) (F : Fr h₀ L s.heap m) (XK : (hd.heap_39 w.params).In h₀) (N : News h₀ L s.heap news) (T : Top hd.view_39 lse mean mg mb h₀) (hk : cs.kind = .function)
  (hdp : dp + 2 < recursionLimit) (hu : un' + 20 < cLine)
  (hret : ∀ t h' tk', Fr h₀ L h' m → News h₀ L h' news → Q (.str (Str.ofString "line") t) { s with heap := h', toks := tk' }) :
  wpAny (model PySem.Challenge.rw_bm0011_01.row.prog w) (ktrTop dp un' gd cn cs L a ccd cl []) (call (.ref 41) [.str (tx (lit P q B)) t]) Q E s := by
  have hBl : B.length ≤ 1000 := by omega
  have hXl : (tx (lit P q B)).length ≤ 1000000 := by rw [tx_length, lit_length]; omega
  revert XK; k_fill; intro XK
  refine wpAny_call ?_
  k_dflt (refine' told_enter ?k1 ?k2 ?k3 ?k4 ?k5 ?kA ?kf ?ke ?k6 ?k7 ?k8 ?k9 ?kB ?_ ?c2 ?c3 ?c4 ?c5; (case kA => exact rfl); (case kf => exact rfl); (case ke => assumption); (case k2 => k_asm); (case k1 => k_asm); (case k3 => k_asm); (case k4 => k_asm); (case k5 => k_asm); (case k6 => k_is); (case k7 => k_is); (case k8 => ktr_room); (case k9 => exact BindsTo.of_eq rfl); (case kB => exact locs rfl); (case c2 => exact rfl); (case c3 => exact rfl); (case c4 => exact rfl); (case c5 => decide); k_whole; intro g' L' h' FG' F' N' B' X' T' D'; (try dsimp only); (try k_lift B'); (try k_fold))
  k_with "exec While Compare cons nil" => (first | ((with_reducible show wpAny _ _ (exec (Stmt.While (Expr.Compare _ [CmpOp.NotIn] _ _) _ _ _) _) _ _ _); k_while (fun _ start => 0 ≤ start ∧ start ≤ (P.length : Int)) (fun _ start => ((P.length : Int) - start).toNat) "start"))
  k_steps
  exact hret _ _ _ (by assumption) (drop3 (by assumption))
set_option maxRecDepth 100000 in
set_option maxHeartbeats 2000000 in
theorem told_esc {w : World} {mean : ExcName → Option Value} {mg mb : Str → Option Value} {dp un' : Nat} {gd : Option (List Code)} {cn : Str} {cs : Scope} {a : Addr} {ccd : Value} {cl : List (Str × Addr)} {A₀ : Around} {base h₀ : Heap} {L : Addr} {m : Str → Option Value} {s : Shared} {Q E : Value → Shared → Prop} {news : List (Addr × Obj)}
  (P B : List Nat) (q : Nat) (t : Tok)
  (hq : q = 39 ∨ q = 34) (hP : ∀ c ∈ P, c ≠ 39 ∧ c ≠ 34) (hlow : Txt.lower (tx P) = tx []) (hlen : P.length + B.length ≤ 1000)
  (hp' : ([] : List Nat) = [] ∨ ([] : List Nat) = [114] ∨ ([] : List Nat) = [117]) (h10 : 10 ∉ B) (h13 : 13 ∉ B) (hub : ub B) (h92 : 92 ∈ B)
  (XB : (hd.heap_39 w.params).In base) (TB : Top hd.view_39 lse mean mg mb base)
  (hB : Below A₀ base [] h₀) (F : Fr h₀ L s.heap m) (XK : (hd.heap_39 w.params).In h₀) (N : News h₀ L s.heap news) (T : Top hd.view_39 lse mean mg mb h₀) (hk : cs.kind = .function)
  (hdp : dp + 2 < recursionLimit) (hu : un' + 20 < cLine)
  (hret : ∀ t h' tk', Fr h₀ L h' m → News h₀ L h' news → Q (.str (Str.ofString "other") t) { s with heap := h', toks := tk' }) :
  wpAny (model PySem.Challenge.rw_bm0011_01.row.prog w) (ktrTop dp un' gd cn cs L a ccd cl []) (call (.ref 41) [.str (tx (lit P q B)) t]) Q E s := by
  have hBl : B.length ≤ 1000 := by omega
  have hXl : (tx (lit P q B)).length ≤ 1000000 := by rw [tx_length, lit_length]; omega
  revert XK; k_fill; intro XK
  refine wpAny_call ?_
  k_dflt (refine' told_enter ?k1 ?k2 ?k3 ?k4 ?k5 ?kA ?kf ?ke ?k6 ?k7 ?k8 ?k9 ?kB ?_ ?c2 ?c3 ?c4 ?c5; (case kA => exact rfl); (case kf => exact rfl); (case ke => assumption); (case k2 => k_asm); (case k1 => k_asm); (case k3 => k_asm); (case k4 => k_asm); (case k5 => k_asm); (case k6 => k_is); (case k7 => k_is); (case k8 => ktr_room); (case k9 => exact BindsTo.of_eq rfl); (case kB => exact locs rfl); (case c2 => exact rfl); (case c3 => exact rfl); (case c4 => exact rfl); (case c5 => decide); k_whole; intro g' L' h' FG' F' N' B' X' T' D'; (try dsimp only); (try k_lift B'); (try k_fold))
  k_with "exec While Compare cons nil" => (first | ((with_reducible show wpAny _ _ (exec (Stmt.While (Expr.Compare _ [CmpOp.NotIn] _ _) _ _ _) _) _ _ _); k_while (fun _ start => 0 ≤ start ∧ start ≤ (P.length : Int)) (fun _ start => ((P.length : Int) - start).toNat) "start") | ((with_reducible show wpAny _ _ (exec (Stmt.While (Expr.Compare _ [CmpOp.Lt] _ _) _ _ _) _) _ _ _); k_while (fun _ value k => Wbad B value k) (fun _ _ k => ((B.length : Int) - k).toNat) "value" "k"))
  k_with "state" => (first | exact wbad_start (by assumption) | exact wbad_plain (by assumption) (by assumption) (by assumption) | exact wbad_esc (by assumption) (by assumption) (by assumption) (by assumption))
  k_steps
  · exact absurd h92 (by assumption)
  · exact hret _ _ _ (by assumption) (drop3 (by assumption))
  · rename Wbad _ _ _ => W
    exact (wbad_end W (by assumption)).elim
end
end Mine
end
section
open PySem PySem.W PyProof.Rows PySem.Calls
namespace Mine

section
variable {w : World} {mean : ExcName → Option Value} {mg mb : Str → Option Value} {dp un' : Nat} {gd : Option (List Code)} {cn : Str} {cs : Scope} {a : Addr} {ccd : Value} {cl : List (Str × Addr)} {outer : List Env} {A₀ : Around} {base h₀ : Heap} {L : Addr} {m : Str → Option Value} {s : Shared} {Q E : Value → Shared → Prop} {news : List (Addr × Obj)}
  {q : Nat} {t : Tok} {l B : List Nat} {x : Str}

theorem lit_app (P : List Nat) (q : Nat) (B : List Nat) : P ++ lit [] q B = lit P q B := by simp [lit]

theorem ev_written {P P' : List Nat} (hlow : Txt.lower (tx P) = tx P') (hP : ∀ c ∈ P, c ≠ 39 ∧ c ≠ 34) (hpp : P' = [] ∨ P' = [117]) (hPl : P.length ≤ 1) (hq : q = 39 ∨ q = 34) (hl : l.length ≤ 8)
  (hB : Below A₀ base outer h₀) (F : Fr h₀ L s.heap m) (XK : (hd.heap_39 w.params).In h₀) (N : News h₀ L s.heap news) (T : Top hd.view_39 lse mean mg mb h₀) (hk : cs.kind = .function)
  (hdp : dp + 1 < recursionLimit) (hu : un' + 8 < cLine)
  (hret : ∀ t h' tk', Fr h₀ L h' m → News h₀ L h' news → Q (.str (tx l) t) { s with heap := h', toks := tk' }) :
  wpAny (model PySem.Challenge.rw_bm0011_01.row.prog w) (ktrTop dp un' gd cn cs L a ccd cl outer) (call (.ref 22) [.str (tx (cat P (lit [] q (escAll q l)))) t]) Q E s := by
  rw [show cat P (lit [] q (escAll q l)) = lit P q (escAll q l) from lit_app P q _]
  have hel := escAll_len q l
  refine ev_ok P P' (escAll q l) l q t hq hP hlow (by omega) (by omega) ?_ (escAll_free (.inl rfl) hq l) (escAll_free (.inr rfl) hq l) ?_ (fun _ => un_escAll hq l) hB F XK N T hk hdp hu hret
  · rcases hpp with h | h
    · exact .inl h
    · exact .inr (.inr h)
  · rintro h
    rcases hpp with e | e <;> (rw [e] at h; cases h)

theorem ev_raw (hq : q = 39 ∨ q = 34) (hB' : B.length ≤ 100) (h10 : 10 ∉ B) (h13 : 13 ∉ B)
  (hB : Below A₀ base outer h₀) (F : Fr h₀ L s.heap m) (XK : (hd.heap_39 w.params).In h₀) (N : News h₀ L s.heap news) (T : Top hd.view_39 lse mean mg mb h₀) (hk : cs.kind = .function)
  (hdp : dp + 1 < recursionLimit) (hu : un' + 8 < cLine)
  (hret : ∀ t h' tk', Fr h₀ L h' m → News h₀ L h' news → Q (.str (tx B) t) { s with heap := h', toks := tk' }) :
  wpAny (model PySem.Challenge.rw_bm0011_01.row.prog w) (ktrTop dp un' gd cn cs L a ccd cl outer) (call (.ref 22) [.str (tx (cat (cat (cat [114] [q]) B) [q])) t]) Q E s := by
  rw [show cat (cat (cat [114] [q]) B) [q] = lit [114] q B by simp [lit, cat]]
  exact ev_ok [114] [114] B B q t hq (by decide) low_r (by simp; omega) (by omega) (.inr (.inl rfl)) h10 h13 (fun _ => rfl) (fun h => absurd rfl h) hB F XK N T hk hdp hu hret

theorem ev_keep {C : List Nat} (hq : q = 39 ∨ q = 34) (hB' : B.length ≤ 100) (hC : C = [92, 113, 92, 59]) (h10 : 10 ∉ B) (h13 : 13 ∉ B) (h92 : 92 ∉ B)
  (hB : Below A₀ base outer h₀) (F : Fr h₀ L s.heap m) (XK : (hd.heap_39 w.params).In h₀) (N : News h₀ L s.heap news) (T : Top hd.view_39 lse mean mg mb h₀) (hk : cs.kind = .function)
  (hdp : dp + 1 < recursionLimit) (hu : un' + 8 < cLine)
  (hret : ∀ t h' tk', Fr h₀ L h' m → News h₀ L h' news → Q (.str (tx (cat B C)) t) { s with heap := h', toks := tk' }) :
  wpAny (model PySem.Challenge.rw_bm0011_01.row.prog w) (ktrTop dp un' gd cn cs L a ccd cl outer) (call (.ref 22) [.str (tx (cat (cat (cat [q] B) C) [q])) t]) Q E s := by
  subst hC
  rw [show cat (cat (cat [q] B) [92, 113, 92, 59]) [q] = lit [] q (B ++ [92, 113, 92, 59]) by simp [lit, cat]]
  refine ev_ok [] [] (B ++ [92, 113, 92, 59]) (B ++ [92, 113, 92, 59]) q t hq (fun _ h => (nomatch h)) low_nil (by simp; omega) (by simp; omega) (.inl rfl) ?_ ?_ (fun h => (nomatch h)) (fun _ => ?_) hB F XK N T hk hdp hu hret
  · simp [h10]
  · simp [h13]
  · rw [un_append _ h92]; rfl

theorem ev_plain (hx : x = tx (lit [] q B)) (hq : q = 39 ∨ q = 34) (hB' : B.length ≤ 100) (h10 : 10 ∉ B) (h13 : 13 ∉ B) (h92 : 92 ∉ B)
  (hB : Below A₀ base outer h₀) (F : Fr h₀ L s.heap m) (XK : (hd.heap_39 w.params).In h₀) (N : News h₀ L s.heap news) (T : Top hd.view_39 lse mean mg mb h₀) (hk : cs.kind = .function)
  (hdp : dp + 1 < recursionLimit) (hu : un' + 8 < cLine)
  (hret : ∀ t h' tk', Fr h₀ L h' m → News h₀ L h' news → Q (.str (tx B) t) { s with heap := h', toks := tk' }) :
  wpAny (model PySem.Challenge.rw_bm0011_01.row.prog w) (ktrTop dp un' gd cn cs L a ccd cl outer) (call (.ref 22) [.str x t]) Q E s := by
  subst hx
  exact ev_ok [] [] B B q t hq (fun _ h => (nomatch h)) low_nil (by simp; omega) (by omega) (.inl rfl) h10 h13 (fun h => (nomatch h)) (fun _ => un_free h92) hB F XK N T hk hdp hu hret

theorem tell_line (hq : q = 39 ∨ q = 34) (hB' : B.length ≤ 100)
  (XB : (hd.heap_39 w.params).In base) (TB : Top hd.view_39 lse mean mg mb base)
  (hB : Below A₀ base [] h₀) (F : Fr h₀ L s.heap m) (XK : (hd.heap_39 w.params).In h₀) (N : News h₀ L s.heap news) (T : Top hd.view_39 lse mean mg mb h₀) (hk : cs.kind = .function)
  (hdp : dp + 2 < recursionLimit) (hu : un' + 20 < cLine)
  (hret : ∀ t h' tk', Fr h₀ L h' m → News h₀ L h' news → Q (.str (Str.ofString "line") t) { s with heap := h', toks := tk' }) :
  wpAny (model PySem.Challenge.rw_bm0011_01.row.prog w) (ktrTop dp un' gd cn cs L a ccd cl []) (call (.ref 41) [.str (tx (cat (cat (cat [q] B) [10]) [q])) t]) Q E s := by
  rw [show cat (cat (cat [q] B) [10]) [q] = lit [] q (B ++ [10]) by simp [lit, cat]]
  exact told_line [] (B ++ [10]) q t hq (fun _ h => (nomatch h)) low_nil (by simp; omega) (.inl rfl) (by simp) XB TB hB F XK N T hk hdp hu hret

theorem tell_b (hq : q = 39 ∨ q = 34) (hB' : B.length ≤ 100)
  (XB : (hd.heap_39 w.params).In base) (TB : Top hd.view_39 lse mean mg mb base)
  (hB : Below A₀ base [] h₀) (F : Fr h₀ L s.heap m) (XK : (hd.heap_39 w.params).In h₀) (N : News h₀ L s.heap news) (T : Top hd.view_39 lse mean mg mb h₀) (hk : cs.kind = .function)
  (hdp : dp + 2 < recursionLimit) (hu : un' + 20 < cLine)
  (hret : ∀ t h' tk', Fr h₀ L h' m → News h₀ L h' news → Q (.str (Str.ofString "other") t) { s with heap := h', toks := tk' }) :
  wpAny (model PySem.Challenge.rw_bm0011_01.row.prog w) (ktrTop dp un' gd cn cs L a ccd cl []) (call (.ref 41) [.str (tx (cat (cat (cat [98] [q]) B) [q])) t]) Q E s := by
  rw [show cat (cat (cat [98] [q]) B) [q] = lit [98] q B by simp [lit, cat]]
  exact told_b [98] [98] B q t hq (by decide) low_b (by simp; omega) rfl XB TB hB F XK N T hk hdp hu hret

theorem tell_esc {C : List Nat} (hq : q = 39 ∨ q = 34) (hB' : B.length ≤ 100) (hC : C = [92, 120, 52, 49]) (h10 : 10 ∉ B) (h13 : 13 ∉ B) (h92 : 92 ∉ B)
  (XB : (hd.heap_39 w.params).In base) (TB : Top hd.view_39 lse mean mg mb base)
  (hB : Below A₀ base [] h₀) (F : Fr h₀ L s.heap m) (XK : (hd.heap_39 w.params).In h₀) (N : News h₀ L s.heap news) (T : Top hd.view_39 lse mean mg mb h₀) (hk : cs.kind = .function)
  (hdp : dp + 2 < recursionLimit) (hu : un' + 20 < cLine)
  (hret : ∀ t h' tk', Fr h₀ L h' m → News h₀ L h' news → Q (.str (Str.ofString "other") t) { s with heap := h', toks := tk' }) :
  wpAny (model PySem.Challenge.rw_bm0011_01.row.prog w) (ktrTop dp un' gd cn cs L a ccd cl []) (call (.ref 41) [.str (tx (cat (cat (cat [q] B) C) [q])) t]) Q E s := by
  subst hC
  rw [show cat (cat (cat [q] B) [92, 120, 52, 49]) [q] = lit [] q (B ++ [92, 120, 52, 49]) by simp [lit, cat]]
  refine told_esc [] (B ++ [92, 120, 52, 49]) q t hq (fun _ h => (nomatch h)) low_nil (by simp; omega) (.inl rfl) ?_ ?_ ?_ (by simp) XB TB hB F XK N T hk hdp hu hret
  · simp [h10]
  · simp [h13]
  · rw [ub_append _ h92, ub_bs]; exact .inl (by decide)
end
end Mine
end
section
open PySem PySem.W PyProof.Rows PySem.Calls
namespace Mine

section
variable {prog : Program} {w : World} {A : Around} {E : Value → Shared → Prop} {s : Shared} {x y : Str} {t u : Tok} {a b : List Nat} {Q : Value → Shared → Prop}
theorem add_step (hx : x = tx a) (hy : y = tx b) (hsz : a.length + b.length ≤ 100000) (h : ∀ t' k, Q (.str (tx (cat a b)) t') { s with toks := k }) : wpAny (model prog w) A (binaryOp .Add (.str x t) (.str y u)) Q E s := by
  subst hx hy
  refine SB.add (fun t' k => ?_) (by rw [tx_length, tx_length, sizeLine_eq]; omega)
  rw [tx_append]
  exact h t' k
end

theorem lit_2bs : Str.ofString "\\\\" = tx [92, 92] := by decide +kernel
theorem lit_bn : Str.ofString "\\n" = tx [92, 110] := by decide +kernel
theorem lit_br : Str.ofString "\\r" = tx [92, 114] := by decide +kernel
theorem lit_bt : Str.ofString "\\t" = tx [92, 116] := by decide +kernel
theorem lit_ht : Str.ofString "\t" = tx [9] := by decide +kernel
theorem names_at {q c : Nat} : (Spec.lookup (.str (tx [c])) [(.str (Str.ofString "\\"), .str (Str.ofString "\\\\")), (.str (tx [q]), .str (tx (cat [92] [q]))), (.str (Str.ofString "\n"), .str (Str.ofString "\\n")), (.str (Str.ofString "\r"), .str (Str.ofString "\\r")), (.str (Str.ofString "\t"), .str (Str.ofString "\\t"))]).getD (.str (tx [c])) = PyData.str (tx (escSign q c)) := by
  rw [lit_bs, lit_2bs, lit_nl, lit_bn, lit_cr, lit_br, lit_ht, lit_bt]
  have e : ∀ a b : Nat, Spec.same (.str (tx [a])) (.str (tx [b])) = decide (a = b) := fun a b => by
    rw [PyProof.V.same_str]
    simp only [tx_inj, List.cons.injEq, and_true]
  unfold Spec.lookup; rw [e]
  unfold Spec.lookup; rw [e]
  unfold Spec.lookup; rw [e]
  unfold Spec.lookup; rw [e]
  unfold Spec.lookup; rw [e]
  unfold Spec.lookup
  unfold escSign
  simp only [decide_eq_true_eq]
  (repeat' split) <;> first | rfl | omega
theorem flat_tx {v : Value} {d : PyData} {r : List Nat} (h : PyProof.V.Flat v d) (e : d = .str (tx r)) : ∃ t, v = .str (tx r) t := by
  rw [e] at h
  exact h.str_inv
theorem sum_esc (q : Nat) (l : List Nat) : ((l.map (escSign q)).map (·.length)).sum = (escAll q l).length := by
  simp [escAll, List.flatMap, List.length_flatten]
theorem lit_written (q : Nat) (l : List Nat) : cat (cat [q] (l.map (escSign q)).flatten) [q] = lit [] q (escAll q l) := by
  simp [cat, lit, escAll, List.flatMap]
section
local macro_rules | `(tactic| walk_at "eval Dict") => `(tactic| (k_here; k_dflt (refine' kdn_eval (knd := PySem.strKind _ _) ?F ?N ?b ?a ?l ?e ?n ?_; (case F9 => k_asm); (case N => first | k_asm | exact News.nil); (case b => exact Top.nolimit (by k_asm)); (case a => rfl); (case l => rfl); (case e => exact List.cons_ne_nil _ _); (case n => exact Nat.le_of_ble_eq_true rfl)); intro d' h' o' F' N' l1 lo' hd'; (try k_lt l1)))
local macro_rules | `(tactic| walk_at "CompEnd") => `(tactic| (plain_pass; k_here; (refine comp_end (by assumption) (by assumption) ?off ?S ?_); (case off => first | assumption | (simp only [LCg.Off3, and_true]; first | done | assumption)); (case S => first | exact True.intro | k_mem)))
local macro_rules | `(tactic| lcg_src) => `(tactic| k_mem)
local macro_rules | `(tactic| walk_at "eval ListComp") => `(tactic| (k_here; (with_reducible show wpAny _ _ (eval (Expr.ListComp (Expr.Call _ _ _ _) [⟨Expr.Name _ _, Expr.Name _ _, [], 0⟩] _ _) _) _ _ _); k_dflt (refine comp_text (by k_asm) (by with_unfolding_all rfl) (by decide) (by rfl) (by decide) (by rfl) ?_)))
local macro_rules | `(tactic| walk_at "binaryOp Add str str") => `(tactic| (k_here; refine' add_step ?k1 ?k2 ?k3 ?_; (case k1 => with_reducible first | exact rfl | exact lit_bs); (case k2 => with_reducible exact rfl); (case k3 => (simp only [List.length_cons, List.length_nil, List.length_append, cat]); omega); intro t' k'))
local macro_rules | `(tactic| walk_at "call builtin:str.join") => `(tactic| (k_here; (with_reducible rename CarriedAll _ _ => hc9); refine' join_step (List.map (escSign _) _) lit_empty ?hl hc9 ?hs ?_; (case hl => is_list); (case hs => rw [sum_esc]; omega); clear hc9; intro t' k'))
set_option maxRecDepth 100000 in
set_option maxHeartbeats 2000000 in
theorem written_call {w : World} {mean : ExcName → Option Value} {mg mb : Str → Option Value} {dp un' : Nat} {gd : Option (List Code)} {cn : Str} {cs : Scope} {a : Addr} {ccd : Value} {cl : List (Str × Addr)} {outer : List Env} {A₀ : Around} {base h₀ : Heap} {L : Addr} {m : Str → Option Value} {s : Shared} {Q E : Value → Shared → Prop} {news : List (Addr × Obj)}
  {q : Nat} {t t₂ : Tok} {l : List Nat} {x : Str} (hx : x = tx [q]) (hq : q = 39 ∨ q = 34) (hl : l.length ≤ 8)
  (hB : Below A₀ base outer h₀) (F : Fr h₀ L s.heap m) (XK : (hd.heap_39 w.params).In h₀) (N : News h₀ L s.heap news) (T : Top hd.view_39 lse mean mg mb h₀) (hk : cs.kind = .function)
  (hdp : dp + 1 < recursionLimit) (hu : un' + 8 < cLine)
  (hret : ∀ t h' tk', Fr h₀ L h' m → News h₀ L h' news → Q (.str (tx (lit [] q (escAll q l))) t) { s with heap := h', toks := tk' }) :
  wpAny (model PySem.Challenge.rw_bm0011_01.row.prog w) (ktrTop dp un' gd cn cs L a ccd cl outer) (call (.ref 34) [.str (tx l) t, .str x t₂]) Q E s := by
  subst hx
  revert XK; k_fill; intro XK
  refine wpAny_call ?_
  k_dflt (refine' code_defC ?k1 ?k2 ?k3 ?k4 ?k5 ?kA ?kF ?kK ?k6 ?k7 ?k8 ?k9 ?kB ?kD ?_ ?c2 ?c3 ?c4; (case kA => exact rfl); (case kF => exact rfl); (case kK => assumption); (case k1 => k_asm); (case k2 => k_asm); (case k3 => k_asm); (case k4 => k_asm); (case k5 => k_asm); (case k6 => k_is); (case k7 => k_is); (case k8 => ktr_room); (case k9 => exact BindsTo.of_eq rfl); (case kB => exact rfl); (case kD => decide +kernel); (case c2 => exact rfl); (case c3 => exact rfl); (case c4 => exact rfl); k_whole; intro g' L' h' tk' cells' FG' F' N' Y' B' X' T' l1; (try k_lt l1); k_cells Y'; (try simp only [List.cons_append, List.nil_append] at N'); (try dsimp only); (try k_lift B'); (try k_fold))
  k_steps
  k_here
  k_dflt (refine' kdn_eval (knd := PySem.strKind _ _) ?F9 ?N9 ?b9 ?a9 ?l9 ?e9 ?n9 ?_; (case F9 => k_asm); (case N9 => first | k_asm | exact News.nil); (case b9 => exact Top.nolimit (by k_asm)); (case a9 => rfl); (case l9 => rfl); (case e9 => exact List.cons_ne_nil _ _); (case n9 => exact Nat.le_of_ble_eq_true rfl))
  intro d' h' o' F' N' l1 lo' hd'
  (try k_lt l1)
  k_steps
  k_here
  k_dflt (refine' kdn_made_strF ?F9 ?N9 ?U9 ?d9 ?k9 ?n9 ?v9 ?_; (case F9 => k_asm); (case N9 => k_asm); (case U9 => k_updF); (case d9 => k_asm); (case k9 => rfl); (case n9 => (rcases hq with e | e) <;> (subst e; exact of_decide_eq_true (by first | rfl | kernel_rfl!))); (case v9 => rfl))
  intro h' o' F' N' hd' hf'
  (try dsimp only at N')
  k_steps
  k_here
  k_dflt (refine' storeX_C ?F8 ?N8 ?c8 ?U8 ?d8 ?_ ?a8 ?b8; (case a8 => rfl); (case b8 => rfl); (case F8 => k_asm); (case N8 => k_asm); (case c8 => rfl); (case U8 => exact UpdF.tail (by k_ne) (UpdF.head (fun p hp => Nat.ne_of_lt (Nat.lt_succ_of_lt (by first | exact (by assumption : ∀ p ∈ news, p.1 < L') p hp))))); (case d8 => k_asm); k_whole)
  intro h' o' F' N' d'; (try dsimp only at N'); (try k_sweep)
  k_steps
  k_here
  k_dflt (refine ⟨_, _, _, rfl, by rfl, by k_asm, by k_asm, ?omg, ?_⟩)
  (case omg => omega)
  (intro s₂' hs2'); (obtain ⟨g', e2'⟩ := hs2'); (subst e2')
  refine text_rest (escSign q) (fun c' t' I' oI' C' oC' D' m' ys' h' tk' E' hc' hC' hx' F' N' off' ne' => ?_) (fun ys' hc' => ?_)
  · k_steps
    (with_reducible rename PyProof.V.Flat _ _ => hf9)
    k_dflt (exact ⟨rfl, flat_tx hf9 names_at⟩)
  have hE := escAll_len q l
  have hfl : ((l.map (escSign q)).flatten).length ≤ 16 := by
    rw [show (l.map (escSign q)).flatten = escAll q l by simp [escAll, List.flatMap]]
    omega
  k_steps
  rw [lit_written q l]
  exact hret _ _ _ (by assumption) (drop3 (by assumption))
end
end Mine
end
section
open PySem PySem.W PyProof.Rows PySem.Calls
namespace Mine
def lawAt (ns : List Int) (k other : Int) : Int := if k < ns.length then ns.getD k.toNat 0 else other
theorem lit_dd : Str.ofString "\\d\\" = tx [92, 100, 92] := by decide +kernel
theorem lit_nrb : Str.ofString "\n\r\\" = tx [10, 13, 92] := by decide +kernel
theorem lit_z : Str.ofString "z" = tx [122] := by decide +kernel
theorem lit_qq : Str.ofString "\\q\\;" = tx [92, 113, 92, 59] := by decide +kernel
theorem lit_x41 : Str.ofString "\\x41" = tx [92, 120, 52, 49] := by decide +kernel
theorem lit_e1 : Str.ofString "''" = tx (lit [] 39 []) := by decide +kernel
theorem lit_e2 : Str.ofString "\"it's\"" = tx (lit [] 34 [105, 116, 39, 115]) := by decide +kernel
theorem lit_its : Str.ofString "it's" = tx [105, 116, 39, 115] := by decide +kernel
theorem news_drop {h₀ h : Heap} {L : Addr} {a b c d e f g : Addr × Obj} {r : List (Addr × Obj)} (N : News h₀ L h (a :: b :: c :: d :: e :: f :: g :: r)) : News h₀ L h (a :: f :: r) := fun p hp => N p (by
  cases hp with
  | head => exact .head _
  | tail _ hp => cases hp with
    | head => exact .tail _ (.tail _ (.tail _ (.tail _ (.tail _ (.head _)))))
    | tail _ hp => exact .tail _ (.tail _ (.tail _ (.tail _ (.tail _ (.tail _ (.tail _ hp)))))))
section
variable {prog : Program} {w : World} {A : Around} {E : Value → Shared → Prop} {s : Shared} {x y : Str} {t u : Tok} {a b : List Nat} {Q : Value → Shared → Prop}
theorem ne_same (hxy : x = y) (h : Q (.bool false) s) : wpAny (model prog w) A (compareOp .NotEq (.str x t) (.str y u)) Q E s := by
  subst hxy
  refine P.ne_str ?_
  rw [show (x.cps.toList != x.cps.toList) = false by simp]
  exact h
theorem eq_same (hxy : x = y) (h : Q (.bool true) s) : wpAny (model prog w) A (compareOp .Eq (.str x t) (.str y u)) Q E s := by
  subst hxy
  refine PyProof.Rows.eq_str ?_
  rw [show (x == x) = true by simp]
  exact h
end
theorem notin_l {prog : Program} {w : World} {A : Around} {E : Value → Shared → Prop} {s : Shared} {t u : Tok} {l : List Nat} {c : Nat} {Q : Value → Shared → Prop} (h : Q (.bool (decide (c ∉ l))) s) : wpAny (model prog w) A (compareOp .NotIn (.str (tx [c]) u) (.str (tx l) t)) Q E s := notin_one rfl h
section
local macro_rules | `(tactic| walk_at "call builtin:str.join") => `(tactic| (k_here; (with_reducible rename CarriedAll _ _ => hc'); first
  | (k_dflt (refine' plain_step lit_empty ?k1 hc' ?k3 ?_; (case k1 => is_list); (case k3 => assumption); k_whole); clear hc'; intro l' t' k' hl' h10' h13' h92')
  | (k_dflt (refine' text_step lit_empty ?k1 hc' ?k3 ?k4 ?_; (case k1 => is_list); (case k3 => assumption); (case k4 => exact fun _ => pick_stock); k_whole); clear hc'; intro l' t' k' hl' hs'; (have hE39 := escAll_len 39 l'); (have hE34 := escAll_len 34 l'))))
local macro_rules | `(tactic| walk_at "binaryOp Add str str") => `(tactic| (k_here; refine' add_step ?k1 ?k2 ?k3 ?_; (case k1 => with_reducible first | exact rfl | exact lit_empty | exact lit_sq | exact lit_dq | exact lit_u | exact lit_U | exact lit_r | exact lit_b | exact lit_nl | exact lit_nrb); (case k2 => with_reducible first | exact rfl | exact lit_sq | exact lit_dq | exact lit_dd | exact lit_z | exact lit_qq | exact lit_x41 | exact lit_nl); (case k3 => ((simp only [lit_length, cat_length, List.length_cons, List.length_nil]) <;> omega)); intro t' k'))
local macro_rules | `(tactic| walk_at "call ref") => `(tactic| (k_here; (with_reducible show wpAny _ _ (call (Value.ref 34) _) _ _ _); k_dflt (refine' written_call ?kx ?kq ?kl ?k1 ?k2 ?k3 ?k4 ?k5 ?kk ?kd ?ku ?_; (case kx => with_reducible first | exact lit_sq | exact lit_dq); (case kq => first | exact .inl rfl | exact .inr rfl); (case kl => assumption); (case k1 => k_asm); (case k2 => k_asm); (case k3 => k_asm); (case k4 => k_asm); (case k5 => k_asm); (case kk => exact rfl); (case kd => ktr_room); (case ku => ktr_units); k_whole); intro t' h' tk' F' N'))
local macro_rules | `(tactic| walk_at "call ref") => `(tactic| (k_here; first
  | ((with_reducible show wpAny _ _ (call (Value.ref 22) [Value.str (tx (cat _ (lit _ _ _))) _]) _ _ _); k_dflt (refine' ev_written ?kw ?kP ?kp ?kn ?kq ?kl ?k1 ?k2 ?k3 ?k4 ?k5 ?kk ?kd ?ku ?_; (case kw => with_reducible first | exact low_nil | exact low_u | exact low_U); (case kP => decide); (case kp => decide); (case kn => decide); (case kq => first | exact .inl rfl | exact .inr rfl); (case kl => assumption); (case k1 => k_asm); (case k2 => k_asm); (case k3 => k_asm); (case k4 => k_asm); (case k5 => k_asm); (case kk => exact rfl); (case kd => ktr_room); (case ku => ktr_units); k_whole); intro t' h' tk' F' N')
  | ((with_reducible show wpAny _ _ (call (Value.ref 22) [Value.str (tx (cat (cat (cat [114] _) _) _)) _]) _ _ _); k_dflt (refine' ev_raw ?kq ?kn ?ka ?kb ?k1 ?k2 ?k3 ?k4 ?k5 ?kk ?kd ?ku ?_; (case kq => first | exact .inl rfl | exact .inr rfl); (case kn => first | omega | ((simp only [cat_length, List.length_cons, List.length_nil]) <;> omega) | decide); (case ka => first | assumption | (simp only [cat, List.mem_append, List.mem_cons, List.not_mem_nil, not_or]; simp [*]; done) | decide); (case kb => first | assumption | (simp only [cat, List.mem_append, List.mem_cons, List.not_mem_nil, not_or]; simp [*]; done) | decide); (case k1 => k_asm); (case k2 => k_asm); (case k3 => k_asm); (case k4 => k_asm); (case k5 => k_asm); (case kk => exact rfl); (case kd => ktr_room); (case ku => ktr_units); k_whole); intro t' h' tk' F' N')
  | ((with_reducible show wpAny _ _ (call (Value.ref 22) [Value.str (tx (cat (cat (cat _ _) _) _)) _]) _ _ _); k_dflt (refine' ev_keep ?kq ?kn ?kC ?ka ?kb ?kc ?k1 ?k2 ?k3 ?k4 ?k5 ?kk ?kd ?ku ?_; (case kq => first | exact .inl rfl | exact .inr rfl); (case kn => first | omega | ((simp only [cat_length, List.length_cons, List.length_nil]) <;> omega) | decide); (case kC => exact rfl); (case ka => first | assumption | (simp only [cat, List.mem_append, List.mem_cons, List.not_mem_nil, not_or]; simp [*]; done) | decide); (case kb => first | assumption | (simp only [cat, List.mem_append, List.mem_cons, List.not_mem_nil, not_or]; simp [*]; done) | decide); (case kc => first | assumption | (simp only [cat, List.mem_append, List.mem_cons, List.not_mem_nil, not_or]; simp [*]; done) | decide); (case k1 => k_asm); (case k2 => k_asm); (case k3 => k_asm); (case k4 => k_asm); (case k5 => k_asm); (case kk => exact rfl); (case kd => ktr_room); (case ku => ktr_units); k_whole); intro t' h' tk' F' N')
  | ((with_reducible show wpAny _ _ (call (Value.ref 22) [Value.str (Str.ofString _) _]) _ _ _); k_dflt (refine' ev_plain ?kx ?kq ?kn ?ka ?kb ?kc ?k1 ?k2 ?k3 ?k4 ?k5 ?kk ?kd ?ku ?_; (case kx => with_reducible first | exact lit_e1 | exact lit_e2); (case kq => first | exact .inl rfl | exact .inr rfl); (case kn => first | omega | ((simp only [cat_length, List.length_cons, List.length_nil]) <;> omega) | decide); (case ka => first | assumption | (simp only [cat, List.mem_append, List.mem_cons, List.not_mem_nil, not_or]; simp [*]; done) | decide); (case kb => first | assumption | (simp only [cat, List.mem_append, List.mem_cons, List.not_mem_nil, not_or]; simp [*]; done) | decide); (case kc => first | assumption | (simp only [cat, List.mem_append, List.mem_cons, List.not_mem_nil, not_or]; simp [*]; done) | decide); (case k1 => k_asm); (case k2 => k_asm); (case k3 => k_asm); (case k4 => k_asm); (case k5 => k_asm); (case kk => exact rfl); (case kd => ktr_room); (case ku => ktr_units); k_whole); intro t' h' tk' F' N')))
local macro_rules | `(tactic| walk_at "call ref") => `(tactic| (k_here; first
  | ((with_reducible show wpAny _ _ (call (Value.ref 41) [Value.str (tx (cat (cat (cat _ _) [10]) _)) _]) _ _ _); k_dflt (refine' tell_line ?kq ?kn ?XB ?TB ?k1 ?k2 ?k3 ?k4 ?k5 ?kk ?kd ?ku ?_; (case kq => first | exact .inl rfl | exact .inr rfl); (case kn => first | omega | ((simp only [cat_length, List.length_cons, List.length_nil]) <;> omega) | decide); (case XB => assumption); (case TB => assumption); (case k1 => k_asm); (case k2 => k_asm); (case k3 => k_asm); (case k4 => k_asm); (case k5 => k_asm); (case kk => exact rfl); (case kd => ktr_room); (case ku => ktr_units); k_whole); intro t' h' tk' F' N')
  | ((with_reducible show wpAny _ _ (call (Value.ref 41) [Value.str (tx (cat (cat (cat [98] _) _) _)) _]) _ _ _); k_dflt (refine' tell_b ?kq ?kn ?XB ?TB ?k1 ?k2 ?k3 ?k4 ?k5 ?kk ?kd ?ku ?_; (case kq => first | exact .inl rfl | exact .inr rfl); (case kn => first | omega | ((simp only [cat_length, List.length_cons, List.length_nil]) <;> omega) | decide); (case XB => assumption); (case TB => assumption); (case k1 => k_asm); (case k2 => k_asm); (case k3 => k_asm); (case k4 => k_asm); (case k5 => k_asm); (case kk => exact rfl); (case kd => ktr_room); (case ku => ktr_units); k_whole); intro t' h' tk' F' N')
  | ((with_reducible show wpAny _ _ (call (Value.ref 41) [Value.str (tx (cat (cat (cat _ _) [92, 120, 52, 49]) _)) _]) _ _ _); k_dflt (refine' tell_esc ?kq ?kn ?kC ?ka ?kb ?kc ?XB ?TB ?k1 ?k2 ?k3 ?k4 ?k5 ?kk ?kd ?ku ?_; (case kq => first | exact .inl rfl | exact .inr rfl); (case kn => first | omega | ((simp only [cat_length, List.length_cons, List.length_nil]) <;> omega) | decide); (case kC => exact rfl); (case ka => first | assumption | (simp only [cat, List.mem_append, List.mem_cons, List.not_mem_nil, not_or]; simp [*]; done) | decide); (case kb => first | assumption | (simp only [cat, List.mem_append, List.mem_cons, List.not_mem_nil, not_or]; simp [*]; done) | decide); (case kc => first | assumption | (simp only [cat, List.mem_append, List.mem_cons, List.not_mem_nil, not_or]; simp [*]; done) | decide); (case XB => assumption); (case TB => assumption); (case k1 => k_asm); (case k2 => k_asm); (case k3 => k_asm); (case k4 => k_asm); (case k5 => k_asm); (case kk => exact rfl); (case kd => ktr_room); (case ku => ktr_units); k_whole); intro t' h' tk' F' N')))
local macro_rules | `(tactic| walk_at "compareOp NotEq str str") => `(tactic| (k_here; with_reducible refine' ne_same ?kx ?_; (case kx => with_reducible exact rfl)))
local macro_rules | `(tactic| walk_at "compareOp Eq str str") => `(tactic| (k_here; first
  | (refine' eq_same ?kx ?_; (case kx => with_reducible exact lit_empty.symm))
  | (refine' eq_same ?kx ?_; (case kx => with_reducible exact lit_its.symm))))
local macro_rules | `(tactic| walk_at "eval Dict") => `(tactic| (k_here; k_dflt (refine' kdn_eval (knd := PySem.strKind _ _) ?F ?N ?b ?a ?l ?e ?n ?_; (case F9 => k_asm); (case N => first | k_asm | exact News.nil); (case b => exact Top.nolimit (by k_asm)); (case a => rfl); (case l => rfl); (case e => exact List.cons_ne_nil _ _); (case n => exact Nat.le_of_ble_eq_true rfl)); intro d' h' o' F' N' l1 lo' hd'; (try k_lt l1)))
local macro_rules | `(tactic| walk_at "compareOp NotEq ref ref") => `(tactic| (k_here; k_dflt (refine ne_three (by assumption) (by ke_read) (by ke_read) (by ke_room) ?_)))
local macro_rules | `(tactic| walk_at "CompEnd") => `(tactic| (plain_pass; k_here; (refine comp_end (by assumption) (by assumption) ?off ?S ?_); (case off => first | assumption | (simp only [LCg.Off3, and_true]; first | done | assumption)); (case S => first | exact True.intro | k_mem)))
local macro_rules | `(tactic| lcg_src) => `(tactic| k_mem)
local macro_rules | `(tactic| walk_at "eval ListComp") => `(tactic| (k_here; (with_reducible show wpAny _ _ (eval (Expr.ListComp (Expr.Call _ _ _ _) [⟨Expr.Name _ _, Expr.Tuple _ _ _, [], 0⟩] _ _) _) _ _ _); k_dflt (refine comp_tuple (by k_asm) (by with_unfolding_all rfl) (by decide) (by rfl) (by decide) (by rfl) ?_)))
local macro_rules | `(tactic| walk_at "eval ListComp") => `(tactic| (k_here; (with_reducible show wpAny _ _ (eval (Expr.ListComp (Expr.Name _ _) [⟨Expr.Name _ _, Expr.Name _ _, [_], 0⟩] _ _) _) _ _ _); k_dflt (refine comp_textT (by k_asm) (by with_unfolding_all rfl) (by decide) (by rfl) (by decide) (by rfl) ?_)))
local macro_rules | `(tactic| walk_at "SrcST") => `(tactic| (k_here; k_dflt (refine ⟨_, _, _, rfl, by rfl, by k_asm, by k_asm, ?omg, ?_⟩); (case omg => omega); (intro s₂' hs2'); (obtain ⟨g', e2'⟩ := hs2'); (subst e2'); first
  | ((with_reducible rename (_ = Data.cell (some (Value.str (Str.ofString "\"") _))) => hz9); refine text_restT (keep 34) (fun c => [c]) (fun c' t' I' oI' C' oC' D' m' ys' h' tk' E' hc' hC' hx' F' N' off' ne' => ?_) (fun ys' hc' => ?_); (all_goals (try simp only [LCg.Off3, and_true] at off')))
  | (refine text_restT (keep 39) (fun c => [c]) (fun c' t' I' oI' C' oC' D' m' ys' h' tk' E' hc' hC' hx' F' N' off' ne' => ?_) (fun ys' hc' => ?_); (all_goals (try simp only [LCg.Off3, and_true] at off')))))
local macro_rules | `(tactic| walk_at "TestEnd") => `(tactic| (refine ⟨rfl, ?_⟩))
local macro_rules | `(tactic| walk_at "TxEl") => `(tactic| (exact tx_el rfl rfl rfl))
local macro_rules | `(tactic| walk_at "TxSkip") => `(tactic| (exact (rfl : _ = _)))
local macro_rules | `(tactic| walk_at "compareOp NotIn str str") => `(tactic| (k_here; refine notin_l ?_))
local macro_rules | `(tactic| walk_at "SrcTu") => `(tactic| (k_here; k_dflt (refine ⟨_, _, _, rfl, by rfl, by k_asm, by k_asm, by k_mem, by exact Nat.le_of_ble_eq_true rfl, ?_⟩); (intro s₂' hs2'); (obtain ⟨g', e2'⟩ := hs2'); (subst e2'); lcg_lit))
set_option maxRecDepth 100000 in
set_option maxHeartbeats 16000000 in
theorem law_ok : PySem.Challenge.rw_bm0011_01.Holds := hd (by
  k_with "tree" => simp only [lawAt]
  k_with "call ref" => k_call_by "_law_at" lawAt (fun (_ : List Int) (k _ : Int) => 0 ≤ k)
  k_go0
  (all_goals try k_fold)
  repeat' ((fail_if_success (with_reducible show UnrPostW _ _ _ _ _ _ _ _)); first | (k_unfold; (try dsimp only)) | walk1 | (dsimp only; walk1) | (leave1; (try dsimp only)))
  walk1
  walk1
  walk1
  (with_reducible rename News _ _ _ ((_, _) :: (_, LCg.lst _) :: _) => N9)
  (have N8 := news_drop N9)
  clear N9
  (repeat ((with_reducible rename (_ ≠ _ ∧ _) ∧ _ => hh); clear hh))
  (repeat ((with_reducible rename _ ≠ _ ∧ _ => hh); clear hh))
  repeat' ((fail_if_success (with_reducible show UnrPostW _ _ _ _ _ _ _ _)); first | (k_unfold; (try dsimp only)) | walk1 | (dsimp only; walk1) | (leave1; (try dsimp only)))
  (repeat ((with_reducible rename (_ ≠ _ ∧ _) ∧ _ => hh); clear hh))
  (repeat ((with_reducible rename _ ≠ _ ∧ _ => hh); clear hh))
  walk1
  walk1
  k_steps)
end
end Mine
end
theorem PySem.Challenge.cw_bm0011_01_holds : PySem.Challenge.rw_bm0011_01.Holds :=
  Mine.law_ok
