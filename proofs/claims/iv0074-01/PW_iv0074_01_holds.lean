import PyProof.Rows.All
import Wide.All
import OpenK.AllK
import Wide.FinOn
import PySem.Challenge.RW_iv0074_01
open PySem PySem.W PyProof.Rows
open Builtin.Str (strSliceIndices)
set_option Elab.async false
set_option maxRecDepth 100000
set_option maxHeartbeats 8000000
set_option linter.all false
namespace Mine
open_top hd for PySem.Challenge.rw_iv0074_01
end Mine
local macro_rules | `(tactic| walk_at "OM") => `(tactic| (first | decide | assumption | exact Nat.le_trans (by assumption) (by decide) | exact Nat.le_trans (Nat.add_le_add (by walk_at "LB") (by walk_at "LB")) (by decide) | exact Nat.le_trans (by walk_at "LB") (by decide) | omega | (simp only [List.length_append, List.length_cons, List.length_nil, List.length_take, List.length_drop, List.length_reverse, Int.toNat_natCast] at *; omega) | fail "no bound"))
local macro_rules | `(tactic| walk_at $s:str) => `(tactic| k_extra $s)
namespace Mine
theorem units1 {u a c : Nat} (h : u + a < c) : u < c := Nat.lt_of_le_of_lt (Nat.le_add_right _ _) h
theorem units2 {u a b d c : Nat} (h : u + a < c) (k : d + b ≤ a) : u + d + b < c := Nat.lt_of_le_of_lt (Nat.le_trans (Nat.le_of_eq (Nat.add_assoc _ _ _)) (Nat.add_le_add_left k u)) h
theorem units3 {u a b c : Nat} (h : u + a < c) (k : b ≤ a) : u + b < c := Nat.lt_of_le_of_lt (Nat.add_le_add_left k u) h
theorem lb_app {a b : List Nat} {x y : Nat} (h : a.length ≤ x) (k : b.length ≤ y) : (a ++ b).length ≤ x + y := Nat.le_trans (Nat.le_of_eq List.length_append) (Nat.add_le_add h k)
theorem lb_take {a : List Nat} {n x : Nat} (h : a.length ≤ x) : (a.take n).length ≤ x := Nat.le_trans (List.length_take_le' _ _) h
theorem toNat_sub0 {n : Nat} : ((n : Int) - 0).toNat = n := by rw [Int.sub_zero, Int.toNat_natCast]
theorem toNat_0add {n : Nat} : (0 + (n : Int)).toNat = n := by rw [Int.zero_add, Int.toNat_natCast]
theorem toNat_pred {n : Nat} (h : 0 < n) : ((n : Int) - 1).toNat = n - 1 := by omega
theorem toNat_succ {n : Nat} : ((n : Int) + 1).toNat = n + 1 := rfl
theorem succ_of_pos {p : Int} (h : 0 < p) : p + 1 = ((p.toNat + 1 : Nat) : Int) := by
  rw [Int.natCast_add, Int.toNat_of_nonneg (Int.le_of_lt h)]
  rfl
theorem toNat_p1 {p : Int} (h : 0 < p) : (p + 1).toNat = p.toNat + 1 := by rw [succ_of_pos h, Int.toNat_natCast]
theorem sub_p1 {w : Nat} {p : Int} (h : 0 < p) : ((w : Int) - (p + 1)).toNat = w - (p.toNat + 1) := by rw [succ_of_pos h, Int.toNat_sub]
theorem one_left {j w : Nat} (h : j = w + 1 + 1) : ((j : Int) - ((w : Nat) + 1)).toNat = 1 := by
  subst h
  show (((w + 1 + 1 : Nat) : Int) - ((w + 1 : Nat) : Int)).toNat = 1
  rw [Int.toNat_sub, Nat.add_sub_cancel_left]
theorem cast_succ_lt {a b : Nat} (h : (a : Int) + 1 < b) : a + 1 < b := Int.ofNat_lt.mp h
theorem down1 {a b : Nat} (h : (b : Int) < a) : a - (b + 1) < a - b := Nat.sub_succ_lt_self _ _ (Int.ofNat_lt.mp h)
theorem down2 {p : Int} (h : 0 < p) : (p - 1 + 1).toNat < (p + 1).toNat := by
  rw [Int.sub_add_cancel, toNat_p1 h]
  exact Nat.lt_succ_self _
theorem sub_toNat {n : Nat} {i : Int} (h : 0 ≤ i) : ((n : Int) - i).toNat = n - i.toNat := by
  obtain ⟨k, rfl⟩ := Int.eq_ofNat_of_zero_le h
  rw [Int.toNat_sub, Int.toNat_natCast]
end Mine

namespace Mine
/-- a text by its signs' numbers -/
noncomputable def S (l : List Nat) : Str := ⟨l.toArray⟩
theorem S_cps (l : List Nat) : (S l).cps.toList = l := rfl
theorem S_length (l : List Nat) : (S l).length = l.length := by
  show l.toArray.size = l.length
  simp
theorem S_append (a b : List Nat) : S a ++ S b = S (a ++ b) := by
  apply PySem.Str.ext'
  rw [PySem.Str.cps_append]
  show a.toArray ++ b.toArray = (a ++ b).toArray
  simp
theorem S_of (x : Str) : x = S x.cps.toList := rfl
theorem S_inj {a b : List Nat} (h : S a = S b) : a = b := congrArg (fun x : Str => x.cps.toList) h
theorem S_map_inj : ∀ {a b : List (List Nat)}, a.map S = b.map S → a = b
  | [], [], _ => rfl
  | x :: a, y :: b, h => by
    simp only [List.map_cons, List.cons.injEq] at h
    rw [S_inj h.1, S_map_inj h.2]
  | [], _ :: _, h => by simp at h
  | _ :: _, [], h => by simp at h

theorem item_nn {l : List Nat} {i : Int} (h0 : 0 ≤ i) (h1 : i < l.length) : Txt.item (S l) i = S [l.getD i.toNat 0] := by
  unfold Txt.item Txt.charAt
  rw [StrLaws.seqIndex_nonneg h0 (by rw [S_length]; exact h1)]
  have hn : i.toNat < l.length := by omega
  show (⟨#[(l.toArray[i.toNat]?).getD 0]⟩ : Str) = _
  simp [S, hn]
theorem item_last {l : List Nat} (h : l ≠ []) : Txt.item (S l) (-1) = S [l.getD (l.length - 1) 0] := by
  have hl : 0 < l.length := List.length_pos_iff.mpr h
  unfold Txt.item Txt.charAt
  rw [StrLaws.seqIndex_neg (by decide) (by rw [S_length]; omega), S_length]
  show (⟨#[(l.toArray[((-1 : Int) + l.length).toNat]?).getD 0]⟩ : Str) = _
  rw [show ((-1 : Int) + l.length).toNat = l.length - 1 by omega]
  have hn : l.length - 1 < l.length := by omega
  simp [S, hn]

theorem slice_mid {l : List Nat} {i j : Int} (h0 : 0 ≤ i) (h1 : i ≤ j) (h2 : j ≤ l.length) : Txt.slice (S l) (some i) (some j) = S ((l.drop i.toNat).take (j - i).toNat) :=
  eq_of_beq (slice_closesL (x := S l) h0 h1 (by rw [S_length]; exact h2))
theorem slice_to_in {l : List Nat} {j : Int} (h0 : 0 ≤ j) (h2 : j ≤ l.length) : Txt.slice (S l) none (some j) = S (l.take j.toNat) := by
  have e := eq_of_beq (slice_closes_toL (x := S l) h0 (by rw [S_length]; exact h2))
  rw [e]
  show S _ = _
  rw [S_cps]
  simp
theorem slice_from_in {l : List Nat} {i : Int} (h0 : 0 ≤ i) (h2 : i ≤ l.length) : Txt.slice (S l) (some i) none = S (l.drop i.toNat) := by
  have e := eq_of_beq (slice_closes_fromL (x := S l) h0 (by rw [S_length]; exact h2) rfl)
  rw [e]
  show S _ = _
  rw [S_cps, S_length]
  have : ((l.length : Int) - i).toNat = (l.drop i.toNat).length := by rw [sub_toNat h0, List.length_drop]
  rw [this, List.take_length]
theorem slice_from {l : List Nat} {i : Int} (h0 : 0 ≤ i) : Txt.slice (S l) (some i) none = S (l.drop i.toNat) := by
  by_cases h : i ≤ l.length
  · exact slice_from_in h0 h
  · have e : strSliceIndices (some i) none 1 (S l).length = strSliceIndices (some (l.length : Int)) none 1 (S l).length := by
      rw [S_length]
      unfold strSliceIndices
      simp only [show (1 : Int) > 0 by decide, if_true]
      rw [if_neg (by omega : ¬ i < 0), if_neg (by omega : ¬ (l.length : Int) < 0), Int.min_eq_right (by omega : (l.length : Int) ≤ i), Int.min_self]
    have e2 : Txt.slice (S l) (some i) none = Txt.slice (S l) (some (l.length : Int)) none := by
      unfold Txt.slice
      rw [e]
    rw [e2, slice_from_in (by omega) (Int.le_refl _), List.drop_of_length_le (by omega), List.drop_of_length_le (by omega)]
theorem slice_to {l : List Nat} {j : Int} (h0 : 0 ≤ j) : Txt.slice (S l) none (some j) = S (l.take j.toNat) := by
  by_cases h : j ≤ l.length
  · exact slice_to_in h0 h
  · have e : strSliceIndices none (some j) 1 (S l).length = strSliceIndices none (some (l.length : Int)) 1 (S l).length := by
      rw [S_length]
      unfold strSliceIndices
      simp only [show (1 : Int) > 0 by decide, if_true]
      rw [if_neg (by omega : ¬ j < 0), if_neg (by omega : ¬ (l.length : Int) < 0), Int.min_eq_right (by omega : (l.length : Int) ≤ j), Int.min_self]
    have e2 : Txt.slice (S l) none (some j) = Txt.slice (S l) none (some (l.length : Int)) := by
      unfold Txt.slice
      rw [e]
    rw [e2, slice_to_in (by omega) (Int.le_refl _), List.take_of_length_le (by omega), List.take_of_length_le (by omega)]
theorem slice_neg {l : List Nat} {j : Int} (h0 : j < 0) (h1 : -(l.length : Int) ≤ j) : Txt.slice (S l) none (some j) = S (l.take (l.length - (-j).toNat)) := by
  have e : Txt.slice (S l) none (some j) = Txt.slice (S l) none (some (j + l.length)) := by
    unfold Txt.slice
    rw [StrLaws.sliceIdx_neg_hi none (S l).length h0 (by rw [S_length]; exact h1), S_length]
  rw [e, slice_to (by omega)]
  congr 2
  omega
theorem slice_rev (l : List Nat) (u : Tok) : Txt.sliceBy (S l) none none (-1, u) = S l.reverse := by
  have h := step_rev_list (S l) u
  have e : (Txt.sliceBy (S l) none none (-1, u)).cps.toList = l.reverse := by
    rw [h, S_length]
    apply List.ext_getElem
    · simp
    · intro i h1 h2
      simp at h1
      simp [S, List.getElem_reverse]
      rw [List.getElem?_eq_getElem (by omega)]
      rfl
  rw [S_of (Txt.sliceBy (S l) none none (-1, u)), e]

theorem eq_S {a b : List Nat} : ((S a).cps.toList == (S b).cps.toList) = decide (a = b) := by
  rw [S_cps, S_cps]
  by_cases h : a = b <;> simp [h]
theorem lt_one (c d : Nat) : (decide ((S [c]).cps.toList < (S [d]).cps.toList)) = decide (c < d) := by
  rw [S_cps, S_cps, StrLaws.lt_cons_cons, StrLaws.lt_nil_nil]
  simp
theorem le_one (c d : Nat) : (!decide ((S [d]).cps.toList < (S [c]).cps.toList)) = decide (c ≤ d) := by
  rw [lt_one]
  by_cases h : c ≤ d
  · have : ¬ d < c := by omega
    simp [h, this]
  · have : d < c := by omega
    simp [h, this]
theorem in_one (l : List Nat) (c : Nat) : (!(Builtin.Str.occurrences (S l) (S [c]) 0 (S l).length 1).isEmpty) = decide (c ∈ l) := StrLaws.found_one (S l) c

theorem subAt_S (l p : List Nat) (i : Nat) : Builtin.Str.subAt (S l) (S p) i = ((l.drop i).take p.length == p) := by
  rw [StrLaws.subAt_eq, S_cps, S_cps, S_length]
theorem starts_S (l p : List Nat) : Txt.startswith (S l) (S p) = p.isPrefixOf l := by
  unfold Txt.startswith
  rw [subAt_S, S_length, S_length, Bool.eq_iff_iff]
  simp only [Nat.zero_add, List.drop_zero, Bool.and_eq_true, decide_eq_true_eq, beq_iff_eq, List.isPrefixOf_iff_prefix]
  constructor
  · rintro ⟨_, h⟩
    rw [← h]
    exact List.take_prefix _ _
  · intro h
    exact ⟨h.length_le, (List.prefix_iff_eq_take.mp h).symm⟩
theorem ends_S (l p : List Nat) : Txt.endswith (S l) (S p) = p.isSuffixOf l := by
  unfold Txt.endswith
  rw [subAt_S, S_length, S_length, Bool.eq_iff_iff]
  simp only [Nat.zero_add, Bool.and_eq_true, decide_eq_true_eq, beq_iff_eq, List.isSuffixOf_iff_suffix]
  constructor
  · rintro ⟨h0, h⟩
    rw [List.take_of_length_le (by simp; omega)] at h
    rw [← h]
    exact List.drop_suffix _ _
  · intro h
    refine ⟨h.length_le, ?_⟩
    rw [List.take_of_length_le (by simp; have := h.length_le; omega)]
    exact (List.suffix_iff_eq_drop.mp h).symm

/-- the first place of a sign, or -1 -/
noncomputable def findI (l : List Nat) (c : Nat) : Int := if c ∈ l then (l.idxOf c : Nat) else -1
theorem at_one (l : List Nat) (c i : Nat) : StrLaws.At (S l) (S [c]) (S l).length i ↔ l[i]? = some c := StrLaws.subAt_one (S l) c i
theorem find_S (l : List Nat) (c : Nat) : Txt.find (S l) (S [c]) = findI l c := by
  unfold Txt.find findI
  rcases StrLaws.occ_head (S l) (S [c]) 1 (Nat.le_refl _) with ⟨h0, hn⟩ | ⟨i, r, h0, ha, hn⟩
  · rw [h0, if_neg]
    intro hc
    obtain ⟨i, hi⟩ := List.mem_iff_getElem?.mp hc
    exact hn i ((at_one l c i).mpr hi)
  · rw [h0]
    have hi := (at_one l c i).mp ha
    have hc : c ∈ l := List.mem_of_getElem? hi
    rw [if_pos hc]
    have hlt : i < l.length := by
      rcases Nat.lt_or_ge i l.length with h | h
      · exact h
      · rw [List.getElem?_eq_none h] at hi; cases hi
    have e : l.idxOf c = i := by
      have h1 : l.idxOf c ≤ i := by
        have hic : l[i] = c := by rw [List.getElem?_eq_getElem hlt] at hi; exact Option.some.inj hi
        rcases Nat.lt_or_ge i (l.idxOf c) with h | h
        · have q := List.not_of_lt_findIdx (p := (· == c)) (xs := l) h
          simp [hic] at q
        · exact h
      rcases Nat.lt_or_ge (l.idxOf c) i with h | h
      · exact absurd ((at_one l c _).mpr (by rw [List.getElem?_eq_getElem (List.idxOf_lt_length_of_mem hc)]; simp)) (hn _ h)
      · omega
    simp [e]

noncomputable def stripL (p : Nat → Bool) (l : List Nat) : List Nat := ((l.dropWhile p).reverse.dropWhile p).reverse
theorem drop_takeWhile (p : Nat → Bool) : ∀ l : List Nat, l.drop (l.takeWhile p).length = l.dropWhile p
  | [] => rfl
  | a :: r => by
    simp only [List.takeWhile_cons, List.dropWhile_cons]
    cases h : p a with
    | true => simp [drop_takeWhile p r]
    | false => simp
theorem strip_S (l : List Nat) : Txt.strip (S l) = S (stripL Unicode.isSpace l) := by
  have e : (Txt.strip (S l)).cps.toList = stripL Unicode.isSpace l := by
    unfold Txt.strip
    rw [PyProof.Rows.stripBy_eq, StrLaws.strSub_toList]
    simp only [stripLo, stripHi, if_true, S_cps, S_length, drop_takeWhile]
    generalize hd : l.dropWhile Unicode.isSpace = d
    have hk := drop_takeWhile Unicode.isSpace d.reverse
    have hlen : l.length = (l.takeWhile Unicode.isSpace).length + d.length := by
      have := congrArg List.length (List.takeWhile_append_dropWhile (p := Unicode.isSpace) (l := l))
      rw [List.length_append, hd] at this
      omega
    unfold stripL
    rw [hd, ← hk]
    generalize (d.reverse.takeWhile Unicode.isSpace).length = k
    rw [List.drop_reverse, List.reverse_reverse, hlen]
    congr 1
    omega
  rw [S_of (Txt.strip (S l)), e]

/-- parts joined by a sign -/
noncomputable def joinC (c : Nat) : List (List Nat) → List Nat
  | [] => []
  | [x] => x
  | x :: y :: r => x ++ c :: joinC c (y :: r)
noncomputable def splitC (c : Nat) : List Nat → List (List Nat)
  | [] => [[]]
  | a :: r => if a = c then [] :: splitC c r else match splitC c r with
    | [] => [[a]]
    | p :: q => (a :: p) :: q
theorem splitC_ne (c : Nat) : ∀ l, splitC c l ≠ []
  | [] => by simp [splitC]
  | a :: r => by
    unfold splitC
    split
    · simp
    · split <;> simp
theorem splitC_free (c : Nat) : ∀ p : List Nat, c ∉ p → splitC c p = [p]
  | [], _ => rfl
  | a :: r, h => by
    have ha : a ≠ c := fun e => h (by rw [e]; exact .head _)
    unfold splitC
    rw [if_neg ha, splitC_free c r fun q => h (.tail _ q)]
theorem splitC_step (c : Nat) (rest : List Nat) : ∀ p : List Nat, c ∉ p → splitC c (p ++ c :: rest) = p :: splitC c rest
  | [], _ => by
    show splitC c (c :: rest) = _
    rw [splitC, if_pos rfl]
  | a :: r, h => by
    have ha : a ≠ c := fun e => h (by rw [e]; exact .head _)
    show splitC c (a :: (r ++ c :: rest)) = _
    rw [splitC, if_neg ha, splitC_step c rest r fun q => h (.tail _ q)]
theorem splitC_join (c : Nat) : ∀ A : List (List Nat), A ≠ [] → (∀ p ∈ A, c ∉ p) → splitC c (joinC c A) = A
  | [], h, _ => absurd rfl h
  | [x], _, h => splitC_free c x (h x (.head _))
  | x :: y :: r, _, h => by
    rw [joinC, splitC_step c _ x (h x (.head _)), splitC_join c (y :: r) (by simp) fun p hp => h p (.tail _ hp)]
theorem join_S (c : Nat) : ∀ A : List (List Nat), Str.join (S [c]) (A.map S) = S (joinC c A)
  | [] => rfl
  | [x] => rfl
  | x :: y :: r => by
    show S x ++ S [c] ++ Str.join (S [c]) ((y :: r).map S) = _
    rw [join_S c (y :: r), S_append, S_append, joinC, List.append_assoc]
    rfl
theorem map_S_of (L : List Str) : L = (L.map fun x => x.cps.toList).map S := by
  rw [List.map_map]
  exact (List.map_id L).symm
theorem split_S (c : Nat) (A : List (List Nat)) (h0 : A ≠ []) (h : ∀ p ∈ A, c ∉ p) : Txt.split (S (joinC c A)) (S [c]) = A.map S := by
  generalize hx : S (joinC c A) = x
  have e := StrLaws.join_split x (S [c])
  have hf := StrLaws.split_free x c
  rw [map_S_of (Txt.split x (S [c]))] at e
  rw [map_S_of (Txt.split x (S [c]))]
  generalize hB : ((Txt.split x (S [c])).map fun x => x.cps.toList) = B at e
  have hfB : ∀ p ∈ B, c ∉ p := by
    intro p hp
    rw [← hB] at hp
    obtain ⟨y, hy, rfl⟩ := List.mem_map.mp hp
    exact hf y hy
  have hB0 : B ≠ [] ∨ B = [] := by cases B <;> simp
  rw [join_S, ← hx] at e
  have e1 := S_inj e
  congr 1
  rcases hB0 with hB0 | hB0
  · rw [← splitC_join c B hB0 hfB, e1, splitC_join c A h0 h]
  · exfalso
    have : Txt.split x (S [c]) ≠ [] := by
      unfold Txt.split
      split
      · simp
      · split
        · simp
        · unfold Builtin.Str.partsBetween
          cases (Builtin.Str.occurrences x (S [c]) 0 x.length (x.length + 1)) <;> simp
    rw [hB0] at hB
    exact this (List.map_eq_nil_iff.mp hB)
end Mine

namespace Mine
section
variable {prog : Program} {w : World} {A : Around} {E : Value → Shared → Prop} {hp : Heap} {gg : Array GenState} {dr : Drawn} {tk : Nat} {oo : OsState} {env : Env} {Q : Value → Shared → Prop} {l l₁ l₂ : List Nat} {t u : Tok}
theorem const_S {x : Str} {k : Nat} {pos : Pos} (hx : x = S l) (h : ∀ t k, Q (.str (S l) t) ⟨hp, gg, dr, k, oo⟩) : wpAny (model prog w) A (eval (.Constant (.str x) k pos) env) Q E ⟨hp, gg, dr, tk, oo⟩ := by
  subst hx
  exact Calls.Constant_str (h _ _)
theorem ifexp_S {test : PySem.Expr} {a b : Str} {k₁ k₂ : Nat} {p₁ p₂ pos : Pos} (ha : a = S l₁) (hb : b = S l₂) (hl₁ : l₁.length ≤ 9) (hl₂ : l₂.length ≤ 9) (h : wpAny (model prog w) A (isTrue test env (eval test env)) (fun c s₁ => ∀ z t k, z = (if c then l₁ else l₂) → z.length ≤ 9 → Q (.str (S z) t) { s₁ with toks := k }) E ⟨hp, gg, dr, tk, oo⟩) :
    wpAny (model prog w) A (eval (.IfExp test (.Constant (.str a) k₁ p₁) (.Constant (.str b) k₂ p₂) pos) env) Q E ⟨hp, gg, dr, tk, oo⟩ := by
  refine IfExp_ (wpAny_mono h (fun c s₁ h₁ => ?_) fun _ _ x => x)
  obtain ⟨h1, h2, h3, h4, h5⟩ := s₁
  cases c with
  | true => exact const_S ha fun t k => h₁ _ t k rfl hl₁
  | false => exact const_S hb fun t k => h₁ _ t k rfl hl₂
theorem len_S (hl : l.length ≤ 16777216) (h : ∀ t k, Q (.int (l.length : Nat) t) ⟨hp, gg, dr, k, oo⟩) : wpAny (model prog w) A (call (.builtin "len") [.str (S l) t]) Q E ⟨hp, gg, dr, tk, oo⟩ := by
  refine SBL.len ?_ ?_
  · rw [S_length]; omega
  · rw [S_length]; exact h _ _
theorem truthy_S {Q : Bool → Shared → Prop} (hl : l.length ≤ 16777216) (h : ∀ k, Q (decide (l ≠ [])) ⟨hp, gg, dr, k, oo⟩) : wpAny (model prog w) A (truthy (.str (S l) t)) Q E ⟨hp, gg, dr, tk, oo⟩ := by
  refine P.truthy_str (by rw [S_length]; omega) ?_
  have e : (((S l).length : Int) != 0) = decide (l ≠ []) := by
    rw [S_length]
    cases l with
    | nil => rfl
    | cons a r =>
      have h0 : ((r.length : Int) + 1) ≠ 0 := by omega
      simp
      exact h0
  rw [e]
  exact h _
theorem le_S {c d : Nat} (h : Q (.bool (decide (c ≤ d))) ⟨hp, gg, dr, tk, oo⟩) : wpAny (model prog w) A (compareOp .LtE (.str (S [c]) t) (.str (S [d]) u)) Q E ⟨hp, gg, dr, tk, oo⟩ := by
  refine P.le_str ?_
  rw [le_one]
  exact h
theorem eq_SS (h : Q (.bool (decide (l₁ = l₂))) ⟨hp, gg, dr, tk, oo⟩) : wpAny (model prog w) A (compareOp .Eq (.str (S l₁) t) (.str (S l₂) u)) Q E ⟨hp, gg, dr, tk, oo⟩ := by
  refine P.eq_str ?_
  rw [eq_S]
  exact h
theorem ne_SS (h : Q (.bool (decide (l₁ ≠ l₂))) ⟨hp, gg, dr, tk, oo⟩) : wpAny (model prog w) A (compareOp .NotEq (.str (S l₁) t) (.str (S l₂) u)) Q E ⟨hp, gg, dr, tk, oo⟩ := by
  refine P.ne_str ?_
  have e : ((S l₁).cps.toList != (S l₂).cps.toList) = decide (l₁ ≠ l₂) := by
    rw [bne, eq_S]
    simp
  rw [e]
  exact h
theorem notin_S {c : Nat} (h : Q (.bool (decide (c ∉ l))) ⟨hp, gg, dr, tk, oo⟩) : wpAny (model prog w) A (compareOp .NotIn (.str (S [c]) u) (.str (S l) t)) Q E ⟨hp, gg, dr, tk, oo⟩ := by
  refine P.notIn_str ?_
  have e : (!(!(Builtin.Str.occurrences (S l) (S [c]) 0 (S l).length 1).isEmpty)) = decide (c ∉ l) := by
    rw [in_one]
    simp
  rw [e]
  exact h
theorem add_S (hl : l₁.length + l₂.length ≤ 16777216) (h : ∀ t k, Q (.str (S (l₁ ++ l₂)) t) ⟨hp, gg, dr, k, oo⟩) : wpAny (model prog w) A (binaryOp .Add (.str (S l₁) t) (.str (S l₂) u)) Q E ⟨hp, gg, dr, tk, oo⟩ := by
  refine KOpn.add (by rw [S_length, S_length]; exact hl) ?_
  intro t' k _
  rw [S_append]
  exact h t' k
theorem find_SS {c : Nat} (h : ∀ t k, Q (.int (findI l c) t) ⟨hp, gg, dr, k, oo⟩) : wpAny (model prog w) A (call (.builtin "str.find") [.str (S l) t, .str (S [c]) u]) Q E ⟨hp, gg, dr, tk, oo⟩ := by
  refine SC.find ?_
  rw [find_S]
  exact h _ _
theorem starts_SS (h : Q (.bool (l₂.isPrefixOf l₁)) ⟨hp, gg, dr, tk, oo⟩) : wpAny (model prog w) A (call (.builtin "str.startswith") [.str (S l₁) t, .str (S l₂) u]) Q E ⟨hp, gg, dr, tk, oo⟩ := by
  refine SC.startswith ?_
  rw [starts_S]
  exact h
theorem ends_SS (h : Q (.bool (l₂.isSuffixOf l₁)) ⟨hp, gg, dr, tk, oo⟩) : wpAny (model prog w) A (call (.builtin "str.endswith") [.str (S l₁) t, .str (S l₂) u]) Q E ⟨hp, gg, dr, tk, oo⟩ := by
  refine SC.endswith ?_
  rw [ends_S]
  exact h
theorem strip_SS (hl : l.length ≤ 16777216) (h : ∀ t k, Q (.str (S (stripL Unicode.isSpace l)) t) ⟨hp, gg, dr, k, oo⟩) : wpAny (model prog w) A (call (.builtin "str.strip") [.str (S l) t]) Q E ⟨hp, gg, dr, tk, oo⟩ := by
  refine SCL.strip (hsz := by rw [S_length, sizeLine_eq]; exact hl) ?_
  intro t' k _
  rw [strip_S]
  exact h t' k

section
variable {value slice : PySem.Expr} {i j : Int} {h₀ : Heap} {L : Addr} {m : Str → Option Value} {news : List (Addr × Obj)} {uj ui : Tok}
theorem item_SS (h0 : 0 ≤ i) (h1 : i < l.length) (hl : l.length ≤ 16777216) (h : ∀ t k, Q (.str (S [l.getD i.toNat 0]) t) ⟨hp, gg, dr, k, oo⟩)
    (hs : subscripted slice false (.str (S l) t) (.int i u) = operate [.str (S l) t, .int i u] (getItem (.str (S l) t) (.int i u)) := by with_unfolding_all rfl)
    (ht : ∀ r, letTemporaryGo value (.str (S l) t) r = pure () := by intro _; with_unfolding_all rfl) : wpAny (model prog w) A (subscriptTail value slice (.str (S l) t) (.int i u)) Q E ⟨hp, gg, dr, tk, oo⟩ := by
  refine KXi.item (n := l.length) (S_length l) (by omega) h1 hl ?_ hs ht
  intro _
  rw [item_nn h0 h1]
  exact h _ _
theorem item_lit {x : Str} (hx : x = S l) (h0 : 0 ≤ i) (h1 : i < (l.length : Nat)) (hl : l.length ≤ 16777216) (h : ∀ t k, Q (.str (S [l.getD i.toNat 0]) t) ⟨hp, gg, dr, k, oo⟩)
    (hs : subscripted slice false (.str x t) (.int i u) = operate [.str x t, .int i u] (getItem (.str x t) (.int i u)) := by with_unfolding_all rfl)
    (ht : ∀ r, letTemporaryGo value (.str x t) r = pure () := by intro _; with_unfolding_all rfl) : wpAny (model prog w) A (subscriptTail value slice (.str x t) (.int i u)) Q E ⟨hp, gg, dr, tk, oo⟩ := by
  subst hx
  exact item_SS h0 h1 hl h hs ht
theorem item_SL (hl : l ≠ []) (hn : l.length ≤ 16777216) (h : ∀ t k, Q (.str (S [l.getD (l.length - 1) 0]) t) ⟨hp, gg, dr, k, oo⟩)
    (hs : subscripted slice false (.str (S l) t) (.int (-1) u) = operate [.str (S l) t, .int (-1) u] (getItem (.str (S l) t) (.int (-1) u)) := by with_unfolding_all rfl)
    (ht : ∀ r, letTemporaryGo value (.str (S l) t) r = pure () := by intro _; with_unfolding_all rfl) : wpAny (model prog w) A (subscriptTail value slice (.str (S l) t) (.int (-1) u)) Q E ⟨hp, gg, dr, tk, oo⟩ := by
  have hp := List.length_pos_iff.mpr hl
  refine KXi.item (n := l.length) (S_length l) (by omega) (by omega) hn ?_ hs ht
  intro _
  rw [item_last hl]
  exact h _ _
theorem slice_SS_to (hF : Fr h₀ L hp m) (hN : News h₀ L hp news) (h0 : 0 ≤ j) (hl : l.length ≤ 16777216)
    (h : ∀ h' t' k, Fr h₀ L h' m → News h₀ L h' news → Q (.str (S (l.take j.toNat)) t') ⟨h', gg, dr, k, oo⟩)
    (hs : subscripted slice false (.str (S l) t) (.ref hp.objs.size) = operate [.ref hp.objs.size, .str (S l) t] (getItem (.str (S l) t) (.ref hp.objs.size)) := by with_unfolding_all rfl)
    (ht : ∀ r, letTemporaryGo value (.str (S l) t) r = pure () := by intro _; with_unfolding_all rfl) :
    wpAny (model prog w) A (subscriptTail value slice (.str (S l) t) (.ref hp.objs.size)) Q E ⟨hp.push { cls := .type "slice", data := .fields #[.none, .int j uj, .none] }, gg, dr, tk, oo⟩ := by
  refine slice_strN_ns (s := ⟨hp, gg, dr, tk, oo⟩) hF hN ?_ hs ht (by rw [S_length, sizeLine_eq]; exact hl)
  intro h' t' k F N
  rw [slice_to h0]
  exact h h' t' k F N
theorem slice_SS_neg (hF : Fr h₀ L hp m) (hN : News h₀ L hp news) (h0 : j < 0) (h1 : -(l.length : Int) ≤ j) (hl : l.length ≤ 16777216)
    (h : ∀ h' t' k, Fr h₀ L h' m → News h₀ L h' news → Q (.str (S (l.take (l.length - (-j).toNat))) t') ⟨h', gg, dr, k, oo⟩)
    (hs : subscripted slice false (.str (S l) t) (.ref hp.objs.size) = operate [.ref hp.objs.size, .str (S l) t] (getItem (.str (S l) t) (.ref hp.objs.size)) := by with_unfolding_all rfl)
    (ht : ∀ r, letTemporaryGo value (.str (S l) t) r = pure () := by intro _; with_unfolding_all rfl) :
    wpAny (model prog w) A (subscriptTail value slice (.str (S l) t) (.ref hp.objs.size)) Q E ⟨hp.push { cls := .type "slice", data := .fields #[.none, .int j uj, .none] }, gg, dr, tk, oo⟩ := by
  refine slice_strN_ns (s := ⟨hp, gg, dr, tk, oo⟩) hF hN ?_ hs ht (by rw [S_length, sizeLine_eq]; exact hl)
  intro h' t' k F N
  rw [slice_neg h0 h1]
  exact h h' t' k F N
theorem slice_SS_from (hF : Fr h₀ L hp m) (hN : News h₀ L hp news) (h0 : 0 ≤ i) (hl : l.length ≤ 16777216)
    (h : ∀ h' t' k, Fr h₀ L h' m → News h₀ L h' news → Q (.str (S (l.drop i.toNat)) t') ⟨h', gg, dr, k, oo⟩)
    (hs : subscripted slice false (.str (S l) t) (.ref hp.objs.size) = operate [.ref hp.objs.size, .str (S l) t] (getItem (.str (S l) t) (.ref hp.objs.size)) := by with_unfolding_all rfl)
    (ht : ∀ r, letTemporaryGo value (.str (S l) t) r = pure () := by intro _; with_unfolding_all rfl) :
    wpAny (model prog w) A (subscriptTail value slice (.str (S l) t) (.ref hp.objs.size)) Q E ⟨hp.push { cls := .type "slice", data := .fields #[.int i ui, .none, .none] }, gg, dr, tk, oo⟩ := by
  refine slice_strN_sn (s := ⟨hp, gg, dr, tk, oo⟩) hF hN ?_ hs ht (by rw [S_length, sizeLine_eq]; exact hl)
  intro h' t' k F N
  rw [slice_from h0]
  exact h h' t' k F N
theorem slice_SS_mid (hF : Fr h₀ L hp m) (hN : News h₀ L hp news) (h0 : 0 ≤ i) (h1 : i ≤ j) (h2 : j ≤ l.length) (hl : l.length ≤ 16777216)
    (h : ∀ h' t' k, Fr h₀ L h' m → News h₀ L h' news → Q (.str (S ((l.drop i.toNat).take (j - i).toNat)) t') ⟨h', gg, dr, k, oo⟩)
    (hs : subscripted slice false (.str (S l) t) (.ref hp.objs.size) = operate [.ref hp.objs.size, .str (S l) t] (getItem (.str (S l) t) (.ref hp.objs.size)) := by with_unfolding_all rfl)
    (ht : ∀ r, letTemporaryGo value (.str (S l) t) r = pure () := by intro _; with_unfolding_all rfl) :
    wpAny (model prog w) A (subscriptTail value slice (.str (S l) t) (.ref hp.objs.size)) Q E ⟨hp.push { cls := .type "slice", data := .fields #[.int i ui, .int j uj, .none] }, gg, dr, tk, oo⟩ := by
  refine slice_strN_ss (s := ⟨hp, gg, dr, tk, oo⟩) hF hN ?_ hs ht (by rw [S_length, sizeLine_eq]; exact hl)
  intro h' t' k F N
  rw [slice_mid h0 h1 h2]
  exact h h' t' k F N
theorem slice_SS_rev (hF : Fr h₀ L hp m) (hN : News h₀ L hp news) (hl : l.length ≤ 16777216)
    (h : ∀ h' t' k, Fr h₀ L h' m → News h₀ L h' news → Q (.str (S l.reverse) t') ⟨h', gg, dr, k, oo⟩)
    (hs : subscripted slice false (.str (S l) t) (.ref hp.objs.size) = operate [.ref hp.objs.size, .str (S l) t] (getItem (.str (S l) t) (.ref hp.objs.size)) := by with_unfolding_all rfl)
    (ht : ∀ r, letTemporaryGo value (.str (S l) t) r = pure () := by intro _; with_unfolding_all rfl) :
    wpAny (model prog w) A (subscriptTail value slice (.str (S l) t) (.ref hp.objs.size)) Q E ⟨hp.push { cls := .type "slice", data := .fields #[.none, .none, .int (-1) uj] }, gg, dr, tk, oo⟩ := by
  refine slice_strK_nn (s := ⟨hp, gg, dr, tk, oo⟩) hF hN (by decide) ?_ hs ht (by rw [S_length, sizeLine_eq]; exact hl)
  intro h' t' k F N
  rw [slice_rev]
  exact h h' t' k F N
end
end

theorem lit_0 : Str.ofString "a" = S [97] := by decide +kernel
theorem lit_1 : Str.ofString "z" = S [122] := by decide +kernel
theorem lit_2 : Str.ofString "A" = S [65] := by decide +kernel
theorem lit_3 : Str.ofString "Z" = S [90] := by decide +kernel
theorem lit_4 : Str.ofString "0" = S [48] := by decide +kernel
theorem lit_5 : Str.ofString "9" = S [57] := by decide +kernel
theorem lit_6 : Str.ofString "_" = S [95] := by decide +kernel
theorem lit_7 : Str.ofString "*" = S [42] := by decide +kernel
theorem lit_8 : Str.ofString "." = S [46] := by decide +kernel
theorem lit_9 : Str.ofString ">" = S [62] := by decide +kernel
theorem lit_10 : Str.ofString "\n" = S [10] := by decide +kernel
theorem lit_11 : Str.ofString "y" = S [121] := by decide +kernel
theorem lit_12 : Str.ofString "" = S [] := by decide +kernel
theorem lit_13 : Str.ofString "kilo" = S [107, 105, 108, 111] := by decide +kernel
theorem lit_14 : Str.ofString "micro" = S [109, 105, 99, 114, 111] := by decide +kernel
theorem lit_15 : Str.ofString "milli" = S [109, 105, 108, 108, 105] := by decide +kernel
theorem lit_16 : Str.ofString "intra" = S [105, 110, 116, 114, 97] := by decide +kernel
theorem lit_17 : Str.ofString "ultra" = S [117, 108, 116, 114, 97] := by decide +kernel
theorem lit_18 : Str.ofString "mega" = S [109, 101, 103, 97] := by decide +kernel
theorem lit_19 : Str.ofString "nano" = S [110, 97, 110, 111] := by decide +kernel
theorem lit_20 : Str.ofString "pico" = S [112, 105, 99, 111] := by decide +kernel
theorem lit_21 : Str.ofString "pseudo" = S [112, 115, 101, 117, 100, 111] := by decide +kernel
theorem lit_22 : Str.ofString "aeiou" = S [97, 101, 105, 111, 117] := by decide +kernel
theorem lit_23 : Str.ofString "123" = S [49, 50, 51] := by decide +kernel
theorem lit_24 : Str.ofString "e" = S [101] := by decide +kernel
theorem lit_25 : Str.ofString "i" = S [105] := by decide +kernel
theorem lit_26 : Str.ofString "o" = S [111] := by decide +kernel
theorem lit_27 : Str.ofString "u" = S [117] := by decide +kernel
theorem lit_28 : Str.ofString "   " = S [32, 32, 32] := by decide +kernel
theorem lit_29 : Str.ofString "    { -" = S [32, 32, 32, 32, 123, 32, 45] := by decide +kernel
theorem lit_30 : Str.ofString " > -" = S [32, 62, 32, 45] := by decide +kernel
theorem lit_31 : Str.ofString " }" = S [32, 125] := by decide +kernel
theorem lit_32 : Str.ofString "\n  " = S [10, 32, 32] := by decide +kernel
theorem lit_33 : Str.ofString "Bad rule" = S [66, 97, 100, 32, 114, 117, 108, 101] := by decide +kernel
theorem lit_34 : Str.ofString "aeioustnrldmcphgbvfywkxjqz" = S [97, 101, 105, 111, 117, 115, 116, 110, 114, 108, 100, 109, 99, 112, 104, 103, 98, 118, 102, 121, 119, 107, 120, 106, 113, 122] := by decide +kernel
end Mine

namespace Mine
noncomputable def Halt (P : Prop) : Prop := P
theorem Halt.go {P : Prop} (h : Halt P) : P := h
theorem Halt.out {P : Prop} (h : P) : Halt P := h
theorem lookup_kst : ∀ (bs : List (Str × Value)) (y : Str), List.lookup y bs = kstB (fun _ => none) bs y
  | [], _ => rfl
  | (x, v) :: r, y => by
    show (match y == x with | true => some v | false => List.lookup y r) = if y = x then some v else kstB (fun _ => none) r y
    by_cases h : y = x
    · rw [if_pos h, beq_iff_eq.mpr h]
    · rw [if_neg h, beq_eq_false_iff_ne.mpr h]
      exact lookup_kst r y
theorem fr_norm {g h : Heap} {L : Addr} {bs : List (Str × Value)} (bs' : List (Str × Value)) (F : Fr g L h (fun y => List.lookup y bs)) (e : bs = bs') : Fr g L h (kstB (fun _ => none) bs') := by
  subst e
  have : (fun y => List.lookup y bs) = kstB (fun _ => none) bs := funext fun y => lookup_kst bs y
  rw [← this]
  exact F
noncomputable def isW (c : Nat) : Bool := decide (97 ≤ c ∧ c ≤ 122) || decide (65 ≤ c ∧ c ≤ 90) || decide (48 ≤ c ∧ c ≤ 57) || decide (c = 95)
noncomputable def run (f : Nat → Bool) (l : List Nat) (k : Nat) : Nat := k + ((l.drop k).takeWhile f).length
theorem run_le {f : Nat → Bool} {l : List Nat} {k : Nat} (h : k ≤ l.length) : run f l k ≤ l.length := by
  unfold run
  have := (List.takeWhile_prefix (p := f) (l := l.drop k)).length_le
  rw [List.length_drop] at this
  omega
theorem run_ge (f : Nat → Bool) (l : List Nat) (k : Nat) : k ≤ run f l k := by unfold run; omega
theorem run_end {f : Nat → Bool} {l : List Nat} {k : Nat} (h : ¬ k < l.length) (h2 : k ≤ l.length) : run f l k = k := by
  unfold run
  rw [List.drop_eq_nil_of_le (by omega)]
  rfl
theorem run_stop {f : Nat → Bool} {l : List Nat} {k : Nat} (h : k < l.length) (h2 : f (l.getD k 0) = false) : run f l k = k := by
  unfold run
  rw [List.drop_eq_getElem_cons h, List.takeWhile_cons]
  have : l.getD k 0 = l[k] := by simp [h]
  rw [this] at h2
  simp [h2]
theorem run_step {f : Nat → Bool} {l : List Nat} {k : Nat} (h : k < l.length) (h2 : f (l.getD k 0) = true) : run f l (k + 1) = run f l k := by
  unfold run
  rw [List.drop_eq_getElem_cons h, List.takeWhile_cons]
  have : l.getD k 0 = l[k] := by simp [h]
  rw [this] at h2
  simp [h2]
  omega
noncomputable abbrev wordRun (l : List Nat) (k : Nat) : Nat := run isW l k
noncomputable def isD (c : Nat) : Bool := decide (48 ≤ c ∧ c ≤ 57)
noncomputable abbrev digRun (l : List Nat) (k : Nat) : Nat := run isD l k
noncomputable def lastDig (l : List Nat) : Nat → Nat
  | 0 => 0
  | p + 1 => if isD (l.getD (p + 1) 0) = true then p + 1 else lastDig l p
noncomputable def lastDigI (l : List Nat) (p : Int) : Int := if p ≤ 0 then p else (lastDig l p.toNat : Nat)
theorem lastDigI_low {l : List Nat} {p : Int} (h : ¬ p > 0) : lastDigI l p = p := if_pos (by omega)
theorem lastDigI_hit {l : List Nat} {p : Int} (h : p > 0) (hd : isD (l.getD p.toNat 0) = true) : lastDigI l p = p := by
  unfold lastDigI
  rw [if_neg (by omega)]
  obtain ⟨q, hq⟩ : ∃ q, p.toNat = q + 1 := ⟨p.toNat - 1, by omega⟩
  rw [hq] at hd ⊢
  rw [lastDig, if_pos hd]
  omega
theorem lastDigI_miss {l : List Nat} {p : Int} (h : p > 0) (hd : isD (l.getD p.toNat 0) = false) : lastDigI l (p - 1) = lastDigI l p := by
  unfold lastDigI
  rw [if_neg (by omega : ¬ p ≤ 0)]
  obtain ⟨q, hq⟩ : ∃ q, p.toNat = q + 1 := ⟨p.toNat - 1, by omega⟩
  rw [hq] at hd ⊢
  have e1 : lastDig l (q + 1) = lastDig l q := by rw [lastDig, if_neg (by rw [hd]; exact Bool.false_ne_true)]
  rw [e1]
  have e : (p - 1).toNat = q := by omega
  split
  · have : q = 0 := by omega
    subst this
    show p - 1 = ((0 : Nat) : Int)
    omega
  · rw [e]
theorem lastDigI_le {l : List Nat} (p : Int) : lastDigI l p ≤ p := by
  have : ∀ n, lastDig l n ≤ n := by
    intro n
    induction n with
    | zero => exact Nat.le_refl _
    | succ n ih =>
      rw [lastDig]
      split
      · exact Nat.le_refl _
      · omega
  unfold lastDigI
  split
  · omega
  · have := this p.toNat
    omega
/-- a rule: its ending, does it want a word still whole, how many letters go, which come, does it go on -/
structure Rule where
  ending : List Nat
  whole : Bool
  gone : Nat
  given : List Nat
  onward : Bool
noncomputable def tupObj (r : Rule) (t1 t2 t3 : Tok) : Obj := { cls := .type "tuple", data := .seq [.str (S r.ending) t1, .bool r.whole, .int (r.gone : Nat) t2, .str (S r.given) t3, .bool r.onward].toArray }
noncomputable def GoodDig (l : List Nat) : Prop := ∀ i, isD (l.getD i 0) = true → 49 ≤ l.getD i 0 ∧ l.getD i 0 ≤ 51 ∧ isD (l.getD (i + 1) 0) = false
/-- what _read_rule reads in a line -/
noncomputable def readRule (l : List Nat) : Option Rule :=
  if 0 < wordRun l 0 ∧ wordRun l 0 < l.length ∧ l.getD (wordRun l 0) 0 = 42 then
    if digRun l (wordRun l 0 + 1) > wordRun l 0 + 1 ∧ wordRun l (digRun l (wordRun l 0 + 1)) < l.length ∧ (l.getD (wordRun l (digRun l (wordRun l 0 + 1))) 0 = 46 ∨ l.getD (wordRun l (digRun l (wordRun l 0 + 1))) 0 = 62) then
      some ⟨l.take (wordRun l 0), true, l.getD (wordRun l 0 + 1) 0 - 48, (l.drop (digRun l (wordRun l 0 + 1))).take (wordRun l (digRun l (wordRun l 0 + 1)) - digRun l (wordRun l 0 + 1)), decide (l.getD (wordRun l (digRun l (wordRun l 0 + 1))) 0 = 62)⟩
    else none
  else if lastDigI l (wordRun l 0 - 1) > 0 ∧ wordRun l 0 < l.length ∧ (l.getD (wordRun l 0) 0 = 46 ∨ l.getD (wordRun l 0) 0 = 62) then
    some ⟨l.take (lastDigI l (wordRun l 0 - 1)).toNat, false, l.getD (lastDigI l (wordRun l 0 - 1)).toNat 0 - 48, (l.drop ((lastDigI l (wordRun l 0 - 1)).toNat + 1)).take (wordRun l 0 - ((lastDigI l (wordRun l 0 - 1)).toNat + 1)), decide (l.getD (wordRun l 0) 0 = 62)⟩
  else none
end Mine

namespace Mine
theorem small_nat {n : Nat} (h : n ≤ 1000) : Builtin.Range.small 0 (n : Int) 1 = true := small_one (by omega) (by omega) (by omega) (by omega)
end Mine
namespace Mine
theorem off_stored {stored : List Str} {z k : Str} (h : stored.contains z = false) (hk : stored.contains k = true) : ¬ z = k := fun e => by
  rw [e, hk] at h
  cases h
theorem sub_stored {small big : List Str} {z : Str} (h : big.contains z = false) (hs : small.all (fun k => big.contains k) = true) : ¬ small.contains z = true := fun e => by
  have := List.all_eq_true.mp hs z (List.contains_iff_mem.mp e)
  rw [h] at this
  cases this
theorem not_stored {stored : List Str} {z : Str} (h : stored.contains z = false) : ¬ stored.contains z = true := by
  rw [h]
  exact Bool.false_ne_true
end Mine
namespace Mine
/-- where a while ends: a state of the loop with its last fact -/
noncomputable def ExitPost {σ : Type} (h₀ : Heap) (L : Addr) (s : Shared) (Led : σ → List (Addr × Obj)) (ps : σ → List (Str × Value)) (stored : List Str) (m₀ : Str → Option Value) (D : σ → Prop) (f : Flow) (s₂ : Shared) : Prop :=
  match f with
  | .next => ∃ (c : σ) (h : Heap) (tk : Nat) (m' : Str → Option Value) (news' : List (Addr × Obj)), s₂ = { s with heap := h, toks := tk } ∧ Fr h₀ L h m' ∧ News h₀ L h news' ∧ (∀ p ∈ Led c, p ∈ news') ∧ (∀ p ∈ ps c, m' p.1 = some p.2) ∧ (∀ z, (∀ p ∈ ps c, z ≠ p.1) → stored.contains z = false → m' z = m₀ z) ∧ D c
  | _ => False
theorem exit_at {σ : Type} {h₀ : Heap} {L : Addr} {s : Shared} {Led : σ → List (Addr × Obj)} {ps : σ → List (Str × Value)} {stored : List Str} {m₀ m' : Str → Option Value} {D : σ → Prop} {h : Heap} {tk : Nat} {news' : List (Addr × Obj)} (c : σ)
    (F : Fr h₀ L h m') (N : News h₀ L h news') (hn : ∀ p ∈ Led c, p ∈ news') (hk : ∀ p ∈ ps c, m' p.1 = some p.2) (hr : ∀ z, (∀ p ∈ ps c, z ≠ p.1) → stored.contains z = false → m' z = m₀ z) (hd : D c) :
    ExitPost h₀ L s Led ps stored m₀ D .next { s with heap := h, toks := tk } := ⟨c, h, tk, m', news', rfl, F, N, hn, hk, hr, hd⟩
theorem while_cut {prog : Program} {w : World} {A : Around} {E : Value → Shared → Prop} {Q : Flow → Shared → Prop} {s : Shared} {env : Env} {h₀ : Heap} {L : Addr} {σ : Type} {test : PySem.Expr} {body : List Stmt} {pos : Pos} {m₀ : Str → Option Value}
    (Led : σ → List (Addr × Obj)) (ps : σ → List (Str × Value)) (stored : List Str) (P : σ → Prop) (μ : σ → Nat) (D : σ → Prop) (c₀ : σ)
    (F : Fr h₀ L s.heap m₀) (N : News h₀ L s.heap (Led c₀)) (hk : ∀ p ∈ ps c₀, m₀ p.1 = some p.2) (hp : P c₀)
    (turn : ∀ (c : σ) (u : Str → Option Value) h tk, P c → Fr h₀ L h (kstB (fun z => if stored.contains z then u z else m₀ z) (ps c)) → News h₀ L h (Led c) →
      wpAny (model prog w) A (isTrue test env (eval test env)) (fun b s₂ =>
        if b = true then wpAny (model prog w) A (execs body env) (KswPost h₀ L s Led ps (fun _ => True) stored m₀ P μ (ExitPost h₀ L s Led ps stored m₀ D) c) E s₂ else ExitPost h₀ L s Led ps stored m₀ D .next s₂) E { s with heap := h, toks := tk })
    (rest : ∀ (c : σ) (u : Str → Option Value) h tk, D c → Fr h₀ L h (kstB (fun z => if stored.contains z then u z else m₀ z) (ps c)) → News h₀ L h (Led c) → Q .next { s with heap := h, toks := tk })
    (hE : PassesOwn (model prog w) A env E := by with_unfolding_all passes_own) :
    wpAny (model prog w) A (exec (.While test body [] pos) env) Q E s := by
  refine wpAny_mono (ksw_while Led ps (fun _ => True) stored P μ c₀ F N trivial hk hp (fun c u h tk _ => turn c u h tk) hE) (fun f s₂ hx => ?_) fun _ _ x => x
  cases f with
  | next =>
    obtain ⟨c, h, tk, m', news', rfl, F', N', hn, hk', hr, hd⟩ := hx
    exact rest c m' h tk hd (ksw_fr hk' hr F') fun p hp => N' p (hn p hp)
  | brk => exact hx.elim
  | cont => exact hx.elim
  | ret v => exact hx.elim
end Mine
namespace Mine
section
variable {prog : Program} {w : World} {A : Around} {E : Value → Shared → Prop} {s : Shared} {env : Env} {h₀ : Heap} {x : Str} {body : List Stmt} {Q : Flow → Shared → Prop}

/-- a turn's end: the state c' stands, the iterator's own objects too -/
noncomputable def LcEnd {σ : Type} (h₀ : Heap) (L : Addr) (x : Str) (wr : List Addr) (own : List (Addr × Obj)) (Led : σ → List (Addr × Obj)) (ps : σ → List (Str × Value)) (stored : List Str) (m₀ : Str → Option Value) (J : σ → Prop) (s₁ s₂ : Shared) : Prop :=
  ∃ (c : σ) (h : Heap) (tk : Nat) (m' : Str → Option Value) (news' : List (Addr × Obj)), s₂ = { s₁ with heap := h, toks := tk } ∧ Fr h₀ L h m' ∧ News h₀ L h news' ∧ (∀ p ∈ own, p ∈ news') ∧ (∀ p ∈ Led c, p ∈ news') ∧ (∀ p ∈ Led c, p.1 ∉ wr) ∧ (∀ p ∈ ps c, m' p.1 = some p.2) ∧ (∀ z, z ≠ x → (∀ p ∈ ps c, z ≠ p.1) → stored.contains z = false → m' z = m₀ z) ∧ J c
/-- a break: a state with its fact -/
noncomputable def LcBrk {σ : Type} (h₀ : Heap) (L : Addr) (x : Str) (Led : σ → List (Addr × Obj)) (ps : σ → List (Str × Value)) (stored : List Str) (m₀ : Str → Option Value) (D : σ → Prop) (s₁ s₂ : Shared) : Prop :=
  ∃ (c : σ) (h : Heap) (tk : Nat) (m' : Str → Option Value) (news' : List (Addr × Obj)), s₂ = { s₁ with heap := h, toks := tk } ∧ Fr h₀ L h m' ∧ News h₀ L h news' ∧ (∀ p ∈ Led c, p ∈ news') ∧ (∀ p ∈ ps c, m' p.1 = some p.2) ∧ (∀ z, z ≠ x → (∀ p ∈ ps c, z ≠ p.1) → stored.contains z = false → m' z = m₀ z) ∧ D c
noncomputable def LcPost {σ : Type} (h₀ : Heap) (L : Addr) (x : Str) (wr : List Addr) (own : List (Addr × Obj)) (Led : σ → List (Addr × Obj)) (ps : σ → List (Str × Value)) (stored : List Str) (m₀ : Str → Option Value) (J D : σ → Prop) (s₁ : Shared) (Q : Flow → Shared → Prop) (f : Flow) (s₂ : Shared) : Prop :=
  match f with
  | .ret v => Q (.ret v) s₂
  | .brk => LcBrk h₀ L x Led ps stored m₀ D s₁ s₂
  | _ => LcEnd h₀ L x wr own Led ps stored m₀ J s₁ s₂
theorem lc_end {σ : Type} {L : Addr} {wr : List Addr} {own : List (Addr × Obj)} {Led : σ → List (Addr × Obj)} {ps : σ → List (Str × Value)} {stored : List Str} {m₀ m' : Str → Option Value} {J : σ → Prop} {s₁ : Shared} {h : Heap} {tk : Nat} {news' : List (Addr × Obj)} (c : σ)
    (F : Fr h₀ L h m') (N : News h₀ L h news') (ho : ∀ p ∈ own, p ∈ news') (hn : ∀ p ∈ Led c, p ∈ news') (hoff : ∀ p ∈ Led c, p.1 ∉ wr) (hk : ∀ p ∈ ps c, m' p.1 = some p.2) (hr : ∀ z, z ≠ x → (∀ p ∈ ps c, z ≠ p.1) → stored.contains z = false → m' z = m₀ z) (hj : J c) :
    LcEnd h₀ L x wr own Led ps stored m₀ J s₁ { s₁ with heap := h, toks := tk } := ⟨c, h, tk, m', news', rfl, F, N, ho, hn, hoff, hk, hr, hj⟩
theorem lc_brk {σ : Type} {L : Addr} {Led : σ → List (Addr × Obj)} {ps : σ → List (Str × Value)} {stored : List Str} {m₀ m' : Str → Option Value} {D : σ → Prop} {s₁ : Shared} {h : Heap} {tk : Nat} {news' : List (Addr × Obj)} (c : σ)
    (F : Fr h₀ L h m') (N : News h₀ L h news') (hn : ∀ p ∈ Led c, p ∈ news') (hk : ∀ p ∈ ps c, m' p.1 = some p.2) (hr : ∀ z, z ≠ x → (∀ p ∈ ps c, z ≠ p.1) → stored.contains z = false → m' z = m₀ z) (hj : D c) :
    LcBrk h₀ L x Led ps stored m₀ D s₁ { s₁ with heap := h, toks := tk } := ⟨c, h, tk, m', news', rfl, F, N, hn, hk, hr, hj⟩

theorem loop_cut {σ : Type} {I : Addr} {fp wr : List Addr} {n : Nat} {P : Nat → Value → Prop} {St : Nat → Heap → Prop} {m₀ : Str → Option Value} (Led : σ → List (Addr × Obj)) (ps : σ → List (Str × Value)) (stored : List Str) (J : Nat → σ → Prop) (D : σ → Prop) (c₀ : σ)
    (W : Walks prog w A I fp wr n P St) (hLf : env.locals ∉ fp) (hwr : ∀ b ∈ wr, h₀.get? b = none) (hst : St 0 s.heap) (F : Fr h₀ env.locals s.heap m₀) (N : News h₀ env.locals s.heap (Led c₀)) (hoff : ∀ p ∈ Led c₀, p.1 ∉ wr) (hk : ∀ p ∈ ps c₀, m₀ p.1 = some p.2) (hj : J 0 c₀)
    (turn : ∀ i v c (u : Str → Option Value) h tk own, i < n → P i v → J i c → (∀ p ∈ Led c, p.1 ∉ wr) → (∀ p ∈ own, p.1 ∈ fp) → (∀ b ∈ wr, ∀ o, h.get? b = some o → (b, o) ∈ own) → St (i + 1) h →
      Fr h₀ env.locals h (fun y => if y = x then some v else kstB (fun z => if stored.contains z then u z else m₀ z) (ps c) y) → News h₀ env.locals h (Led c ++ own) →
      wpAny (model prog w) A (execs body env) (LcPost h₀ env.locals x wr own Led ps stored m₀ (J (i + 1)) D { s with heap := h, toks := tk } Q) E { s with heap := h, toks := tk })
    (brk : ∀ c (u : Str → Option Value) h tk, D c → Fr h₀ env.locals h (fun y => if y = x then u y else kstB (fun z => if stored.contains z then u z else m₀ z) (ps c) y) → News h₀ env.locals h (Led c) → Q .next { s with heap := h, toks := tk })
    (done : ∀ c (u : Str → Option Value) h tk, J n c → Fr h₀ env.locals h (fun y => if y = x then u y else kstB (fun z => if stored.contains z then u z else m₀ z) (ps c) y) → News h₀ env.locals h (Led c) → Q .next { s with heap := h, toks := tk }) :
    LoopAtV prog w A h₀ env x body Q E (.ref I) s := by
  let J' : Nat → (Str → Option Value) → List (Addr × Obj) → Prop := fun i m nx => ∃ c : σ, nx = Led c ∧ (∀ p ∈ ps c, m p.1 = some p.2) ∧ (∀ z, z ≠ x → (∀ p ∈ ps c, z ≠ p.1) → stored.contains z = false → m z = m₀ z) ∧ J i c
  refine ⟨I, fp, wr, n, P, St, m₀, Led c₀, J', rfl, W, hLf, hwr, hoff, hst, F, N, ⟨c₀, rfl, hk, fun _ _ _ _ => rfl, hj⟩, ?_, ?_⟩
  · rintro i v m₁ news₁ s₁ own ⟨hh', tk', rfl⟩ hin hP ⟨c, rfl, h1, h2, hJ⟩ hoff' hown hget hall hst' F₁ N₁
    have N₂ : News h₀ env.locals hh' (Led c ++ own) := fun p hp => N₁ p ((List.mem_append.mp hp).elim (fun h => List.mem_append.mpr (.inr h)) fun h => List.mem_append.mpr (.inl h))
    refine wpAny_mono (turn i v c m₁ hh' tk' own hin hP hJ hoff' hown (fun b hb o ho => hall b (W.sub b hb) (hwr b hb) o ho) hst' (kst_fr h1 h2 F₁) N₂) (fun f s₂ p => ?_) fun _ _ e => e
    have fin : LcEnd h₀ env.locals x wr own Led ps stored m₀ (J (i + 1)) { s with heap := hh', toks := tk' } s₂ → LoopStepU h₀ env.locals wr own (J' (i + 1)) { s with heap := hh', toks := tk' } .next s₂ := by
      rintro ⟨c', h', tk, m', news', e, F', N', ho, hn, hoff'', hk', hr', hJ'⟩
      exact ⟨rfl, h', tk, m', Led c', e, F', fun p hp => N' p ((List.mem_append.mp hp).elim (ho p) (hn p)), hoff'', c', rfl, hk', hr', hJ'⟩
    cases f with
    | ret v => exact .ret p
    | brk =>
      obtain ⟨c', h', tk, m', news', e, F', N', hn, hk', hr', hD⟩ := p
      refine .brk ?_
      rw [e]
      exact brk c' m' h' tk hD (kst_frOut hk' hr' F') fun p hp => N' p (hn p hp)
    | next => exact .next (fin p)
    | cont => exact .cont (fin p)
  · rintro h' tk m' news' F' N' _ ⟨c, rfl, h1, h2, hJ⟩
    exact done c m' h' tk hJ (kst_frOut h1 h2 F') N'

/-- a loop over a list of the base -/
theorem list_cut0 {σ : Type} {l : Addr} {vs : List Value} {m₀ : Str → Option Value} (Led : σ → List (Addr × Obj)) (ps : σ → List (Str × Value)) (stored : List Str) (J : Nat → σ → Prop) (D : σ → Prop) (c₀ : σ)
    (hh : A.handled = none) (hl : h₀.IsList l vs.toArray) (F : Fr h₀ env.locals s.heap m₀) (N : News h₀ env.locals s.heap (Led c₀)) (hk : ∀ p ∈ ps c₀, m₀ p.1 = some p.2) (hj : J 0 c₀)
    (turn : ∀ i v c (u : Str → Option Value) h tk own I, i < vs.length → vs[i]? = some v → J i c → (∀ p ∈ Led c, p.1 ≠ I) → (∃ it : Obj, (I, it) ∈ own ∧ it.cls = .type "list_iterator") →
      Fr h₀ env.locals h (fun y => if y = x then some v else kstB (fun z => if stored.contains z then u z else m₀ z) (ps c) y) → News h₀ env.locals h (Led c ++ own) →
      wpAny (model prog w) A (execs body env) (LcPost h₀ env.locals x [I] own Led ps stored m₀ (J (i + 1)) D { s with heap := h, toks := tk } Q) E { s with heap := h, toks := tk })
    (brk : ∀ c (u : Str → Option Value) h tk, D c → Fr h₀ env.locals h (fun y => if y = x then u y else kstB (fun z => if stored.contains z then u z else m₀ z) (ps c) y) → News h₀ env.locals h (Led c) → Q .next { s with heap := h, toks := tk })
    (done : ∀ c (u : Str → Option Value) h tk, J vs.length c → Fr h₀ env.locals h (fun y => if y = x then u y else kstB (fun z => if stored.contains z then u z else m₀ z) (ps c) y) → News h₀ env.locals h (Led c) → Q .next { s with heap := h, toks := tk }) :
    wpAny (model prog w) A (pyIter (.ref l)) (fun it s₂ => LoopAtV prog w A h₀ env x body Q E it s₂) E s := by
  have hls : s.heap.IsList l vs.toArray := hl.at fun o e => F.keep _ _ e
  have hl0 : ∃ o, h₀.get? l = some o := let ⟨o, e, _⟩ := hl; ⟨o, e⟩
  have hLn : h₀.get? env.locals = none := Heap.get?_none_of_le F.above
  have hlt : l < s.heap.objs.size := let ⟨o, e⟩ := hl0; Heap.lt_size (F.keep _ _ e)
  refine wpAny_pyIter_list hls ?_
  have W := Walks.list (prog := prog) (w := w) hh s.heap.objs.size l (Nat.ne_of_lt hlt) vs.toArray
  rw [List.size_toArray] at W
  refine loop_cut Led ps stored J D c₀ W ?_ ?_ ⟨⟨_, Heap.get?_push_size _ rfl, rfl, rfl⟩, hls.at fun o e => Heap.get?_push_of_some _ e⟩ (F.push _) (fun p hp => ⟨Heap.get?_push_of_some _ (N p hp).1, (N p hp).2⟩) ?_ hk hj ?_ brk done
  · intro hm
    rcases List.mem_cons.mp hm with e | hm
    · exact absurd F.ns.lt (e ▸ Nat.lt_irrefl _)
    · obtain ⟨o, e⟩ := hl0
      rw [← List.mem_singleton.mp hm, hLn] at e
      cases e
  · intro b hb
    rw [List.mem_singleton.mp hb]
    exact next_is_new F
  · intro p hp hI
    exact absurd (Heap.lt_size (N p hp).1) ((List.mem_singleton.mp hI) ▸ Nat.lt_irrefl _)
  · intro i v c u h tk own hi hP hJ hoff _ hall hst F₁ N₁
    obtain ⟨⟨o, ho, hc, _⟩, _⟩ := hst
    refine turn i v c u h tk own s.heap.objs.size hi (by simpa using hP) hJ (fun p hp e => hoff p hp (by rw [e]; exact List.mem_singleton.mpr rfl)) ⟨o, hall _ (List.mem_singleton.mpr rfl) o ho, hc⟩ F₁ N₁

/-- a loop over a text's signs -/
theorem text_cut {σ : Type} {l : List Nat} {t : Tok} {m₀ : Str → Option Value} (Led : σ → List (Addr × Obj)) (ps : σ → List (Str × Value)) (stored : List Str) (J : Nat → σ → Prop) (D : σ → Prop) (c₀ : σ)
    (hh : A.handled = none) (F : Fr h₀ env.locals s.heap m₀) (N : News h₀ env.locals s.heap (Led c₀)) (hk : ∀ p ∈ ps c₀, m₀ p.1 = some p.2) (hj : J 0 c₀)
    (turn : ∀ i k t c (u : Str → Option Value) h tk own I, i < l.length → l[i]? = some k → J i c → (∀ p ∈ Led c, p.1 ≠ I) →
      Fr h₀ env.locals h (fun y => if y = x then some (.str (S [k]) t) else kstB (fun z => if stored.contains z then u z else m₀ z) (ps c) y) → News h₀ env.locals h (Led c ++ own) →
      wpAny (model prog w) A (execs body env) (LcPost h₀ env.locals x [I] own Led ps stored m₀ (J (i + 1)) D { s with heap := h, toks := tk } Q) E { s with heap := h, toks := tk })
    (brk : ∀ c (u : Str → Option Value) h tk, D c → Fr h₀ env.locals h (fun y => if y = x then u y else kstB (fun z => if stored.contains z then u z else m₀ z) (ps c) y) → News h₀ env.locals h (Led c) → Q .next { s with heap := h, toks := tk })
    (done : ∀ c (u : Str → Option Value) h tk, J l.length c → Fr h₀ env.locals h (fun y => if y = x then u y else kstB (fun z => if stored.contains z then u z else m₀ z) (ps c) y) → News h₀ env.locals h (Led c) → Q .next { s with heap := h, toks := tk }) :
    wpAny (model prog w) A (pyIter (.str (S l) t)) (fun it s₂ => LoopAtV prog w A h₀ env x body Q E it s₂) E s := by
  refine wpAny_pyIter_str fun o St W hst => ?_
  have W := W A hh
  have hsz : (S l).cps.size = l.length := S_length l
  rw [hsz] at W
  refine loop_cut Led ps stored J D c₀ W ?_ ?_ hst (F.push _) (fun p hp => ⟨Heap.get?_push_of_some _ (N p hp).1, (N p hp).2⟩) ?_ hk hj ?_ brk done
  · intro hm
    exact absurd F.ns.lt ((List.mem_singleton.mp hm) ▸ Nat.lt_irrefl _)
  · intro b hb
    rw [List.mem_singleton.mp hb]
    exact next_is_new F
  · intro p hp hI
    exact absurd (Heap.lt_size (N p hp).1) ((List.mem_singleton.mp hI) ▸ Nat.lt_irrefl _)
  · rintro i v c u h tk own hi ⟨k, t', hk', rfl⟩ hJ hoff _ _ _ F₁ N₁
    refine turn i k t' c u h tk own s.heap.objs.size hi ?_ hJ (fun p hp e => hoff p hp (by rw [e]; exact List.mem_singleton.mpr rfl)) F₁ N₁
    rw [← hk']
    show l[i]? = l.toArray[i]?
    simp

/-- a loop over a range by ones -/
theorem range_cut {σ : Type} {r : Addr} {a₀ b₀ : Int} {t₀ u₀ v₀ : Tok} {n : Nat} {m₀ : Str → Option Value} (Led : σ → List (Addr × Obj)) (ps : σ → List (Str × Value)) (stored : List Str) (J : Nat → σ → Prop) (D : σ → Prop) (c₀ : σ)
    (hh : A.handled = none) (hr : IsRange s.heap r a₀ b₀ 1 t₀ u₀ v₀) (hsmall : Builtin.Range.small a₀ b₀ 1 = true) (hn : Builtin.Range.rangeSize a₀ b₀ 1 = (n : Int)) (F : Fr h₀ env.locals s.heap m₀) (N : News h₀ env.locals s.heap (Led c₀)) (hk : ∀ p ∈ ps c₀, m₀ p.1 = some p.2) (hj : J 0 c₀)
    (turn : ∀ (i : Nat) t c (u : Str → Option Value) h tk own I, i < n → J i c → (∀ p ∈ Led c, p.1 ≠ I) →
      Fr h₀ env.locals h (fun y => if y = x then some (.int (a₀ + (i : Int)) t) else kstB (fun z => if stored.contains z then u z else m₀ z) (ps c) y) → News h₀ env.locals h (Led c ++ own) →
      wpAny (model prog w) A (execs body env) (LcPost h₀ env.locals x [I] own Led ps stored m₀ (J (i + 1)) D { s with heap := h, toks := tk } Q) E { s with heap := h, toks := tk })
    (brk : ∀ c (u : Str → Option Value) h tk, D c → Fr h₀ env.locals h (fun y => if y = x then u y else kstB (fun z => if stored.contains z then u z else m₀ z) (ps c) y) → News h₀ env.locals h (Led c) → Q .next { s with heap := h, toks := tk })
    (done : ∀ c (u : Str → Option Value) h tk, J n c → Fr h₀ env.locals h (fun y => if y = x then u y else kstB (fun z => if stored.contains z then u z else m₀ z) (ps c) y) → News h₀ env.locals h (Led c) → Q .next { s with heap := h, toks := tk }) :
    wpAny (model prog w) A (pyIter (.ref r)) (fun it s₂ => LoopAtV prog w A h₀ env x body Q E it s₂) E s := by
  refine wpAny_pyIter_range hr hsmall ?_
  have W := Walks.range (prog := prog) (w := w) hh s.heap.objs.size a₀ 1 n
  refine loop_cut Led ps stored J D c₀ W ?_ ?_ (by show IsRangeIter _ _ _ _ _; rw [hn]; simpa using Heap.get?_push_size _ rfl) (F.push _) (fun p hp => ⟨Heap.get?_push_of_some _ (N p hp).1, (N p hp).2⟩) ?_ hk hj ?_ brk done
  · intro hm
    exact absurd F.ns.lt ((List.mem_singleton.mp hm) ▸ Nat.lt_irrefl _)
  · intro b hb
    rw [List.mem_singleton.mp hb]
    exact next_is_new F
  · intro p hp hI
    exact absurd (Heap.lt_size (N p hp).1) ((List.mem_singleton.mp hI) ▸ Nat.lt_irrefl _)
  · rintro i v c u h tk own hi ⟨t', rfl⟩ hJ hoff _ _ _ F₁ N₁
    rw [Int.mul_one] at F₁
    exact turn i t' c u h tk own s.heap.objs.size hi hJ (fun p hp e => hoff p hp (by rw [e]; exact List.mem_singleton.mpr rfl)) F₁ N₁

/-- a loop over a tuple of the ledger -/
theorem tuple_cut {σ : Type} {l : Addr} {vs : List Value} {nn : Nat} {m₀ : Str → Option Value} (Led : σ → List (Addr × Obj)) (ps : σ → List (Str × Value)) (stored : List Str) (J : Nat → σ → Prop) (D : σ → Prop) (c₀ : σ)
    (hh : A.handled = none) (hl : (l, ({ cls := .type "tuple", data := .seq vs.toArray nn } : Obj)) ∈ Led c₀) (F : Fr h₀ env.locals s.heap m₀) (N : News h₀ env.locals s.heap (Led c₀)) (hk : ∀ p ∈ ps c₀, m₀ p.1 = some p.2) (hj : J 0 c₀)
    (turn : ∀ i v c (u : Str → Option Value) h tk own I, i < vs.length → vs[i]? = some v → J i c → (∀ p ∈ Led c, p.1 ≠ I) → (∃ it : Obj, (I, it) ∈ own ∧ it.cls = .type "tuple_iterator") →
      Fr h₀ env.locals h (fun y => if y = x then some v else kstB (fun z => if stored.contains z then u z else m₀ z) (ps c) y) → News h₀ env.locals h (Led c ++ own) →
      wpAny (model prog w) A (execs body env) (LcPost h₀ env.locals x [I] own Led ps stored m₀ (J (i + 1)) D { s with heap := h, toks := tk } Q) E { s with heap := h, toks := tk })
    (brk : ∀ c (u : Str → Option Value) h tk, D c → Fr h₀ env.locals h (fun y => if y = x then u y else kstB (fun z => if stored.contains z then u z else m₀ z) (ps c) y) → News h₀ env.locals h (Led c) → Q .next { s with heap := h, toks := tk })
    (done : ∀ c (u : Str → Option Value) h tk, J vs.length c → Fr h₀ env.locals h (fun y => if y = x then u y else kstB (fun z => if stored.contains z then u z else m₀ z) (ps c) y) → News h₀ env.locals h (Led c) → Q .next { s with heap := h, toks := tk }) :
    wpAny (model prog w) A (pyIter (.ref l)) (fun it s₂ => LoopAtV prog w A h₀ env x body Q E it s₂) E s := by
  have hlN := N _ hl
  have hls : s.heap.IsTuple l vs.toArray := ⟨_, hlN.1, rfl, nn, rfl⟩
  have hlt : l < s.heap.objs.size := Heap.lt_size hlN.1
  refine wpAny_pyIter_tuple hls ?_
  have W := Walks.tuple (prog := prog) (w := w) hh s.heap.objs.size l (Nat.ne_of_lt hlt) vs.toArray
  rw [List.size_toArray] at W
  refine loop_cut Led ps stored J D c₀ W ?_ ?_ ⟨⟨_, Heap.get?_push_size _ rfl, rfl, rfl⟩, hls.at fun o e => Heap.get?_push_of_some _ e⟩ (F.push _) (fun p hp => ⟨Heap.get?_push_of_some _ (N p hp).1, (N p hp).2⟩) ?_ hk hj ?_ brk done
  · intro hm
    rcases List.mem_cons.mp hm with e | hm
    · exact absurd F.ns.lt (e ▸ Nat.lt_irrefl _)
    · exact hlN.2.1 (List.mem_singleton.mp hm).symm
  · intro b hb
    rw [List.mem_singleton.mp hb]
    exact next_is_new F
  · intro p hp hI
    exact absurd (Heap.lt_size (N p hp).1) ((List.mem_singleton.mp hI) ▸ Nat.lt_irrefl _)
  · intro i v c u h tk own hi hP hJ hoff _ hall hst F₁ N₁
    obtain ⟨⟨o, ho, hc, _⟩, _⟩ := hst
    refine turn i v c u h tk own s.heap.objs.size hi (by simpa using hP) hJ (fun p hp e => hoff p hp (by rw [e]; exact List.mem_singleton.mpr rfl)) ⟨o, hall _ (List.mem_singleton.mpr rfl) o ho, hc⟩ F₁ N₁
end
end Mine
namespace Mine
/-- what a test says, whatever way it went -/
noncomputable def TestIs (h₀ : Heap) (L : Addr) (m : Str → Option Value) (news : List (Addr × Obj)) (s : Shared) (c : Bool) (b : Bool) (s' : Shared) : Prop :=
  b = c ∧ ∃ h tk, s' = { s with heap := h, toks := tk } ∧ Fr h₀ L h m ∧ News h₀ L h news
theorem test_is {h₀ : Heap} {L : Addr} {m : Str → Option Value} {news : List (Addr × Obj)} {s : Shared} {c b : Bool} {h : Heap} {tk : Nat} (F : Fr h₀ L h m) (N : News h₀ L h news) (e : b = c) : TestIs h₀ L m news s c b { s with heap := h, toks := tk } := ⟨e, h, tk, rfl, F, N⟩
/-- an if whose test is walked once -/
theorem If_bool {prog : Program} {w : World} {A : Around} {E : Value → Shared → Prop} {Q : Flow → Shared → Prop} {s : Shared} {env : Env} {h₀ : Heap} {L : Addr} {m : Str → Option Value} {news : List (Addr × Obj)} {test : PySem.Expr} {body orelse : List Stmt} {pos : Pos} (c : Bool) (F : Fr h₀ L s.heap m) (N : News h₀ L s.heap news)
    (h1 : wpAny (model prog w) A (isTrue test env (eval test env)) (TestIs h₀ L m news s c) E s)
    (ht : c = true → ∀ h tk, Fr h₀ L h m → News h₀ L h news → wpAny (model prog w) A (execs body env) Q E { s with heap := h, toks := tk })
    (hf : c = false → ∀ h tk, Fr h₀ L h m → News h₀ L h news → wpAny (model prog w) A (execs orelse env) Q E { s with heap := h, toks := tk }) :
    wpAny (model prog w) A (exec (.If test body orelse pos) env) Q E s := by
  refine wpAny_If (wpAny_mono h1 (fun b s₂ hx => ?_) fun _ _ x => x)
  obtain ⟨e, h, tk, e2, F', N'⟩ := hx
  rw [e, e2]
  cases hc : c with
  | true => rw [if_pos rfl]; exact ht hc h tk F' N'
  | false => rw [if_neg Bool.false_ne_true]; exact hf hc h tk F' N'
/-- a statement whose ways meet in what P says -/
theorem execs_cut {prog : Program} {w : World} {A : Around} {E : Value → Shared → Prop} {Q : Flow → Shared → Prop} {s : Shared} {env : Env} {st : Stmt} {rest : List Stmt} (P : Shared → Prop)
    (h1 : wpAny (model prog w) A (exec st env) (fun f s' => match f with | .next => P s' | _ => False) E s) (h2 : ∀ s', P s' → wpAny (model prog w) A (execs rest env) Q E s') :
    wpAny (model prog w) A (execs (st :: rest) env) Q E s := by
  refine wpAny_execs_cons (wpAny_mono h1 (fun f s' hx => ?_) fun _ _ x => x)
  cases f with
  | next => exact h2 s' hx
  | brk => exact hx.elim
  | cont => exact hx.elim
  | ret v => exact hx.elim
end Mine

local macro_rules | `(tactic| ktr_room) => `(tactic| first | decide | exact Mine.units2 (by assumption) (by decide) | exact Mine.units3 (by assumption) (by decide) | exact Mine.units1 (by assumption))
local macro_rules | `(tactic| ktr_units) => `(tactic| first | decide | exact Mine.units2 (by assumption) (by decide) | exact Mine.units3 (by assumption) (by decide) | exact Mine.units1 (by assumption))
local macro_rules | `(tactic| walk_at "LB") => `(tactic| first | with_reducible assumption | ((with_reducible refine Mine.lb_app ?_ ?_) <;> walk_at "LB") | ((with_reducible refine Mine.lb_take ?_); walk_at "LB") | with_reducible exact Nat.le_refl _)
section

namespace Mine
theorem not_W {b : Bool} (h : b = false) : (!b) = true := by rw [h]; rfl
theorem is_W {b : Bool} (h : b = true) : (!b) = false := by rw [h]; rfl
theorem c_word_run {w : World} {mean : ExcName → Option Value} {mg mb : Str → Option Value} {dp un : Nat} {gd : Option (List Code)} {cn : Str} {cs : Scope} {a : Addr} {ccd : Value} {cl : List (Str × Addr)} {outer : List Env} {A₀ : Around} {base h₀ : Heap} {L : Addr} {m : Str → Option Value} {news : List (Addr × Obj)} {s : Shared} {Q E : Value → Shared → Prop}
    {l : List Nat} {t t' : Tok} {k : Nat}
    (B : Below A₀ base outer h₀) (F : Fr h₀ L s.heap m) (X : (hd.heap_39 w.params).In h₀) (N : News h₀ L s.heap news) (T : Top hd.view_39 (looseW hd.view_39 [Str.ofString "_law_starts"]) mean mg mb h₀) (hk : cs.kind = .function)
    (hdp : dp + 1 < recursionLimit) (hun : un + 8 < cLine)
    (hkl : k ≤ l.length) (hl : l.length ≤ 1000000)
    (hret : ∀  t h' tk', Fr h₀ L h' m → News h₀ L h' news → Q (.int (wordRun l k : Nat) t) { s with heap := h', toks := tk' }) :
    wpAny (model PySem.Challenge.rw_iv0074_01.row.prog w) (ktrTop dp un gd cn cs L a ccd cl outer) (call (.ref 21) [.str (S l) t, .int (k : Nat) t']) Q E s := by
  w_top off
  k_with_none
  (k_with "eval Constant str" => (k_here; first | (with_reducible refine Mine.const_S Mine.lit_0 ?_) | (with_reducible refine Mine.const_S Mine.lit_1 ?_) | (with_reducible refine Mine.const_S Mine.lit_2 ?_) | (with_reducible refine Mine.const_S Mine.lit_3 ?_) | (with_reducible refine Mine.const_S Mine.lit_4 ?_) | (with_reducible refine Mine.const_S Mine.lit_5 ?_) | (with_reducible refine Mine.const_S Mine.lit_6 ?_) | (with_reducible refine Mine.const_S Mine.lit_7 ?_) | (with_reducible refine Mine.const_S Mine.lit_8 ?_) | (with_reducible refine Mine.const_S Mine.lit_9 ?_) | (with_reducible refine Mine.const_S Mine.lit_10 ?_) | (with_reducible refine Mine.const_S Mine.lit_11 ?_) | (with_reducible refine Mine.const_S Mine.lit_12 ?_) | (with_reducible refine Mine.const_S Mine.lit_13 ?_) | (with_reducible refine Mine.const_S Mine.lit_14 ?_) | (with_reducible refine Mine.const_S Mine.lit_15 ?_) | (with_reducible refine Mine.const_S Mine.lit_16 ?_) | (with_reducible refine Mine.const_S Mine.lit_17 ?_) | (with_reducible refine Mine.const_S Mine.lit_18 ?_) | (with_reducible refine Mine.const_S Mine.lit_19 ?_) | (with_reducible refine Mine.const_S Mine.lit_20 ?_) | (with_reducible refine Mine.const_S Mine.lit_21 ?_) | (with_reducible refine Mine.const_S Mine.lit_22 ?_) | (with_reducible refine Mine.const_S Mine.lit_23 ?_) | (with_reducible refine Mine.const_S Mine.lit_24 ?_) | (with_reducible refine Mine.const_S Mine.lit_25 ?_) | (with_reducible refine Mine.const_S Mine.lit_26 ?_) | (with_reducible refine Mine.const_S Mine.lit_27 ?_) | (with_reducible refine Mine.const_S Mine.lit_28 ?_) | (with_reducible refine Mine.const_S Mine.lit_29 ?_) | (with_reducible refine Mine.const_S Mine.lit_30 ?_) | (with_reducible refine Mine.const_S Mine.lit_31 ?_) | (with_reducible refine Mine.const_S Mine.lit_32 ?_) | (with_reducible refine Mine.const_S Mine.lit_33 ?_) | (with_reducible refine Mine.const_S Mine.lit_34 ?_); intro _ _))
  (k_with "eval IfExp" => (k_here; first | (with_reducible refine Mine.ifexp_S Mine.lit_7 Mine.lit_12 (by decide) (by decide) ?_) | (with_reducible refine Mine.ifexp_S Mine.lit_9 Mine.lit_8 (by decide) (by decide) ?_)))
  (k_with "call builtin:len" => (k_here; (with_reducible show wpAny _ _ (call (Value.builtin "len") [Value.str (Mine.S _) _]) _ _ _); (refine Mine.len_S (by walk_at "OM") ?_); intro _ _))
  (k_with "truthy str" => (k_here; (with_reducible show wpAny _ _ (PySem.truthy (Value.str (Mine.S _) _)) _ _ _); (refine Mine.truthy_S (by walk_at "OM") ?_); intro _))
  (k_with "compareOp LtE str str" => (k_here; (with_reducible refine Mine.le_S ?_)))
  (k_with "compareOp Eq str str" => (k_here; (with_reducible refine Mine.eq_SS ?_)))
  (k_with "compareOp NotEq str str" => (k_here; (with_reducible refine Mine.ne_SS ?_)))
  (k_with "compareOp NotIn str str" => (k_here; (with_reducible refine Mine.notin_S ?_)))
  (k_with "binaryOp Add str str" => (k_here; (with_reducible show wpAny _ _ (binaryOp Operator.Add (Value.str (Mine.S _) _) (Value.str (Mine.S _) _)) _ _ _); (refine Mine.add_S (by walk_at "OM") ?_); intro _ _))
  (k_with "call builtin:str.find" => (k_here; (with_reducible refine Mine.find_SS ?_); intro _ _))
  (k_with "call builtin:str.startswith" => (k_here; (with_reducible refine Mine.starts_SS ?_)))
  (k_with "call builtin:str.endswith" => (k_here; (with_reducible refine Mine.ends_SS ?_)))
  (k_with "call builtin:str.strip" => (k_here; (with_reducible show wpAny _ _ (call (Value.builtin "str.strip") [Value.str (Mine.S _) _]) _ _ _); (refine Mine.strip_SS (by walk_at "OM") ?_); intro _ _))
  (k_with "subscriptTail Name Name str int" => (k_here; (with_reducible show wpAny _ _ (subscriptTail _ _ (Value.str (Mine.S _) _) (Value.int _ _)) _ _ _); (refine Mine.item_SS (by walk_at "OM") (by walk_at "OM") (by walk_at "OM") ?_); intro _ _))
  (k_with "subscriptTail Name Constant str int" => (k_here; (with_reducible show wpAny _ _ (subscriptTail _ _ (Value.str (Mine.S _) _) (Value.int _ _)) _ _ _); (refine Mine.item_SS (by walk_at "OM") (by walk_at "OM") (by walk_at "OM") ?_); intro _ _))
  (k_with "subscriptTail Name BinOp str int" => (k_here; (with_reducible show wpAny _ _ (subscriptTail _ _ (Value.str (Mine.S _) _) (Value.int _ _)) _ _ _); (refine Mine.item_SS (by walk_at "OM") (by walk_at "OM") (by walk_at "OM") ?_); intro _ _))
  (k_with "subscriptTail Name UnaryOp str int" => (k_here; (with_reducible show wpAny _ _ (subscriptTail _ _ (Value.str (Mine.S _) _) (Value.int (-1) _)) _ _ _); (refine Mine.item_SL ?_ (by walk_at "OM") ?_); rotate_left; intro _ _))
  (k_with "subscriptTail Name Name str int" => (k_here; (with_reducible show wpAny _ _ (subscriptTail _ _ (Value.str (Str.ofString _) _) (Value.int _ _)) _ _ _); (refine Mine.item_lit Mine.lit_34 (by (first | omega | exact fmod_lo _ (by decide) | exact fmod_hi _ (by decide) | fail "no bound")) (by (first | omega | exact fmod_lo _ (by decide) | exact fmod_hi _ (by decide) | fail "no bound")) (by decide) ?_); intro _ _))
  (k_with "subscriptTail Name Slice str ref" => (k_here; (with_reducible show wpAny _ _ (subscriptTail _ (Expr.Slice none (some _) none _) (Value.str (Mine.S _) _) _) _ _ _); (with_reducible rename Fr _ _ _ _ => wF); (with_reducible rename News _ _ _ _ => wN); (first | (refine Mine.slice_SS_to wF wN (by walk_at "OM") (by walk_at "OM") ?_) | (refine Mine.slice_SS_neg wF wN (by walk_at "OM") (by walk_at "OM") (by walk_at "OM") ?_)); intro _ _ _ _ _))
  (k_with "subscriptTail Name Slice str ref" => (k_here; (with_reducible show wpAny _ _ (subscriptTail _ (Expr.Slice (some _) none none _) (Value.str (Mine.S _) _) _) _ _ _); (with_reducible rename Fr _ _ _ _ => wF); (with_reducible rename News _ _ _ _ => wN); (refine Mine.slice_SS_from wF wN (by walk_at "OM") (by walk_at "OM") ?_); intro _ _ _ _ _))
  (k_with "subscriptTail Name Slice str ref" => (k_here; (with_reducible show wpAny _ _ (subscriptTail _ (Expr.Slice (some _) (some _) none _) (Value.str (Mine.S _) _) _) _ _ _); (with_reducible rename Fr _ _ _ _ => wF); (with_reducible rename News _ _ _ _ => wN); (refine Mine.slice_SS_mid wF wN (by walk_at "OM") (by walk_at "OM") (by walk_at "OM") (by walk_at "OM") ?_); intro _ _ _ _ _))
  (k_with "subscriptTail Name Slice str ref" => (k_here; (with_reducible show wpAny _ _ (subscriptTail _ (Expr.Slice none none (some _) _) (Value.str (Mine.S _) _) _) _ _ _); (with_reducible rename Fr _ _ _ _ => wF); (with_reducible rename News _ _ _ _ => wN); (refine Mine.slice_SS_rev wF wN (by walk_at "OM") ?_); intro _ _ _ _ _))
  (k_with "subscriptTail BinOp Slice str ref" => (k_here; (with_reducible show wpAny _ _ (subscriptTail _ (Expr.Slice none (some _) none _) (Value.str (Mine.S _) _) _) _ _ _); (with_reducible rename Fr _ _ _ _ => wF); (with_reducible rename News _ _ _ _ => wN); (first | (refine Mine.slice_SS_to wF wN (by walk_at "OM") (by walk_at "OM") ?_) | (refine Mine.slice_SS_neg wF wN (by walk_at "OM") (by walk_at "OM") (by walk_at "OM") ?_)); intro _ _ _ _ _))
  (k_with "subscriptTail BinOp Slice str ref" => (k_here; (with_reducible show wpAny _ _ (subscriptTail _ (Expr.Slice (some _) none none _) (Value.str (Mine.S _) _) _) _ _ _); (with_reducible rename Fr _ _ _ _ => wF); (with_reducible rename News _ _ _ _ => wN); (refine Mine.slice_SS_from wF wN (by walk_at "OM") (by walk_at "OM") ?_); intro _ _ _ _ _))
  (k_with "subscriptTail BinOp Slice str ref" => (k_here; (with_reducible show wpAny _ _ (subscriptTail _ (Expr.Slice (some _) (some _) none _) (Value.str (Mine.S _) _) _) _ _ _); (with_reducible rename Fr _ _ _ _ => wF); (with_reducible rename News _ _ _ _ => wN); (refine Mine.slice_SS_mid wF wN (by walk_at "OM") (by walk_at "OM") (by walk_at "OM") (by walk_at "OM") ?_); intro _ _ _ _ _))
  (k_with "subscriptTail BinOp Slice str ref" => (k_here; (with_reducible show wpAny _ _ (subscriptTail _ (Expr.Slice none none (some _) _) (Value.str (Mine.S _) _) _) _ _ _); (with_reducible rename Fr _ _ _ _ => wF); (with_reducible rename News _ _ _ _ => wN); (refine Mine.slice_SS_rev wF wN (by walk_at "OM") ?_); intro _ _ _ _ _))
  (k_with "pyIter ref" => ((with_reducible show wpAny _ _ (pyIter (Value.ref _)) (fun _ _ => LoopAtV _ _ _ _ _ _ _ _ _ _ _) _ _); refine Mine.Halt.go ?_))
  (k_with "pyIter str" => ((with_reducible show wpAny _ _ (pyIter (Value.str _ _)) (fun _ _ => LoopAtV _ _ _ _ _ _ _ _ _ _ _) _ _); refine Mine.Halt.go ?_))
  (k_with "exec For Name Name cons nil" => (k_here; (rename Fr _ _ _ _ => wlF); (with_unfolding_all refine For_invVF wlF (by exact rfl) (by exact rfl) ?_; k_whole)))
  (k_with "exec For Name Call cons nil" => (k_here; (rename Fr _ _ _ _ => wlF); (with_unfolding_all refine For_invVF wlF (by exact rfl) (by exact rfl) ?_; k_whole)))
  (k_with "exec For Name Subscript cons nil" => (k_here; (rename Fr _ _ _ _ => wlF); (with_unfolding_all refine For_invVF wlF (by exact rfl) (by exact rfl) ?_; k_whole)))
  (k_with "exec For Name Tuple cons nil" => (k_here; (rename Fr _ _ _ _ => wlF); (with_unfolding_all refine For_invVF wlF (by exact rfl) (by exact rfl) ?_; k_whole)))
  (k_with "KswEnd" => (refine Mine.Halt.go ?_))
  (k_with "ExitPost" => (refine Mine.Halt.go ?_))
  (k_with "LcEnd" => (refine Mine.Halt.go ?_))
  (k_with "LcBrk" => (refine Mine.Halt.go ?_))
  (k_with "LcPost" => (dsimp only [Mine.LcPost]))
  (k_with "KswEnd" => (refine Mine.Halt.go ?_))
  (k_with "exec If" => (refine Mine.Halt.go ?_))
  (k_with "TestIs" => (refine Mine.Halt.go ?_))
  have hret' : ∀ j : Nat, wordRun l k = j → ∀ t h' tk', Fr h₀ L h' m → News h₀ L h' news → Q (.int (j : Nat) t) { s with heap := h', toks := tk' } := fun j e => e ▸ hret
  k_with "exec While Compare cons nil" => (refine Halt.go ?_)
  revert X
  k_fill
  intro X
  refine wpAny_call ?_
  k_dflt cell_enter
  repeat' (first | (k_unfold; (try dsimp only)) | ((fail_if_success (with_reducible show Mine.Halt _)); k_end; wrow_close) | walk1 | (dsimp only; walk1) | (leave1; walk_say "STEP leave1"; try dsimp only) | fail "no step")
  rename_i g' L' h' FG' F' N' B' X' T'
  replace F' := fr_norm [(Str.ofString "place", .int (k : Nat) t'), (Str.ofString "text", .str (S l) t)] F' rfl
  refine Halt.out ?_
  refine' ksw_while (σ := Nat × Tok) (fun _ => news) (fun c => [(Str.ofString "place", .int (c.1 : Nat) c.2)]) (fun _ => True) [Str.ofString "sign"] (fun c => k ≤ c.1 ∧ c.1 ≤ l.length ∧ wordRun l c.1 = wordRun l k) (fun c => l.length - c.1) (k, t') F' N' trivial ?kk ⟨Nat.le_refl _, hkl, rfl⟩ ?turn
  case kk => kst_all
  case turn =>
    clear F' N'
    rintro ⟨j, tj⟩ u h tk - ⟨hj1, hj2, hj3⟩ F' N'
    dsimp only at hj1 hj2 hj3
    try k_fold
    repeat' (first | (k_unfold; (try dsimp only)) | ((fail_if_success (with_reducible show Mine.Halt _)); k_end; wrow_close) | walk1 | (dsimp only; walk1) | (leave1; walk_say "STEP leave1"; try dsimp only) | fail "no step")
    rotate_left
    · (try dsimp only at *)
      refine hret' _ ?_ _ _ _ (by assumption) (by assumption)
      rw [← hj3]
      exact run_end (by omega) hj2
    (with_reducible rename Fr _ _ _ _ => hF)
    (with_reducible rename News _ _ _ _ => hN)
    refine Halt.out ?_
    refine If_bool (!isW (l.getD j 0)) hF hN ?_ ?_ ?_
    · repeat' (first | (k_unfold; (try dsimp only)) | ((fail_if_success (with_reducible show Mine.Halt _)); k_end; wrow_close) | walk1 | (dsimp only; walk1) | (leave1; walk_say "STEP leave1"; try dsimp only) | fail "no step")
      all_goals (
        (try dsimp only)
        refine Halt.out (test_is (by assumption) (by assumption) ?_)
        (try simp only [Int.toNat_natCast, List.cons.injEq, and_true] at *)
        first
        | (refine (not_W ?_).symm; simp only [isW, Bool.or_eq_false_iff, decide_eq_false_iff_not]; first | (refine ⟨⟨⟨?_, ?_⟩, ?_⟩, ?_⟩ <;> first | assumption | exact fun h => absurd h.1 (by assumption) | exact fun h => absurd h.2 (by assumption)) | omega)
        | (refine (is_W ?_).symm; simp only [isW, Bool.or_eq_true, decide_eq_true_eq]; first | exact .inl (.inl (.inl ⟨by assumption, by assumption⟩)) | exact .inl (.inl (.inr ⟨by assumption, by assumption⟩)) | exact .inl (.inr ⟨by assumption, by assumption⟩) | exact .inr (by assumption) | omega))
    · intro hc1 h9 tk9 F9 N9
      clear hF hN
      repeat' (first | (k_unfold; (try dsimp only)) | ((fail_if_success (with_reducible show Mine.Halt _)); k_end; wrow_close) | walk1 | (dsimp only; walk1) | (leave1; walk_say "STEP leave1"; try dsimp only) | fail "no step")
      refine hret' _ ?_ _ _ _ (by assumption) (by assumption)
      rw [← hj3]
      refine run_stop (by omega) ?_
      simpa using hc1
    · intro hc1 h9 tk9 F9 N9
      clear hF hN
      repeat' (first | (k_unfold; (try dsimp only)) | ((fail_if_success (with_reducible show Mine.Halt _)); k_end; wrow_close) | walk1 | (dsimp only; walk1) | (leave1; walk_say "STEP leave1"; try dsimp only) | fail "no step")
      (try dsimp only at *)
      refine Halt.out (ksw_end (j + 1, _) (by assumption) (by assumption) (fun _ h => h) trivial (by kst_all) (by first | (intro z h2 h3; (try dsimp only [kstB]); (repeat (refine Eq.trans (if_neg (by (first | exact h1 | exact Mine.off_stored h3 (by decide +kernel) | ((fail_if_success (exact Mine.not_stored h3)); exact Mine.sub_stored h3 (by decide +kernel)) | exact h2 _ (.head _) | exact h2 _ (.tail _ (.head _)) | exact h2 _ (.tail _ (.tail _ (.head _))) | exact h2 _ (.tail _ (.tail _ (.tail _ (.head _))))))) ?_)); first | exact if_neg (Mine.not_stored h3) | exact rfl) | (intro z h2 h3; (try simp only [List.forall_mem_cons, List.not_mem_nil, false_implies, implies_true, and_true, ne_eq] at h2); (try simp only [List.contains_cons, List.contains_nil, Bool.or_false, Bool.or_eq_false_iff, beq_eq_false_iff_ne, ne_eq] at h3); simp [kstB, h2, h3])) ?_ (by dsimp only; first | exact down1 (by assumption) | omega))
      refine ⟨by dsimp only; omega, by dsimp only; omega, (run_step (by omega) ?_).trans hj3⟩
      simpa using hc1
end Mine

end
section
namespace Mine
theorem c_is_figure {w : World} {mean : ExcName → Option Value} {mg mb : Str → Option Value} {dp un : Nat} {gd : Option (List Code)} {cn : Str} {cs : Scope} {a : Addr} {ccd : Value} {cl : List (Str × Addr)} {outer : List Env} {A₀ : Around} {base h₀ : Heap} {L : Addr} {m : Str → Option Value} {news : List (Addr × Obj)} {s : Shared} {Q E : Value → Shared → Prop}
    {c : Nat} {t : Tok}
    (B : Below A₀ base outer h₀) (F : Fr h₀ L s.heap m) (X : (hd.heap_39 w.params).In h₀) (N : News h₀ L s.heap news) (T : Top hd.view_39 (looseW hd.view_39 [Str.ofString "_law_starts"]) mean mg mb h₀) (hk : cs.kind = .function)
    (hdp : dp + 1 < recursionLimit) (hun : un + 8 < cLine)
    
    (hret : ∀ h' tk', Fr h₀ L h' m → News h₀ L h' news → Q (.bool (isD c)) { s with heap := h', toks := tk' }) :
    wpAny (model PySem.Challenge.rw_iv0074_01.row.prog w) (ktrTop dp un gd cn cs L a ccd cl outer) (call (.ref 28) [.str (S [c]) t]) Q E s := by
  w_top off
  k_with_none
  (k_with "eval Constant str" => (k_here; first | (with_reducible refine Mine.const_S Mine.lit_0 ?_) | (with_reducible refine Mine.const_S Mine.lit_1 ?_) | (with_reducible refine Mine.const_S Mine.lit_2 ?_) | (with_reducible refine Mine.const_S Mine.lit_3 ?_) | (with_reducible refine Mine.const_S Mine.lit_4 ?_) | (with_reducible refine Mine.const_S Mine.lit_5 ?_) | (with_reducible refine Mine.const_S Mine.lit_6 ?_) | (with_reducible refine Mine.const_S Mine.lit_7 ?_) | (with_reducible refine Mine.const_S Mine.lit_8 ?_) | (with_reducible refine Mine.const_S Mine.lit_9 ?_) | (with_reducible refine Mine.const_S Mine.lit_10 ?_) | (with_reducible refine Mine.const_S Mine.lit_11 ?_) | (with_reducible refine Mine.const_S Mine.lit_12 ?_) | (with_reducible refine Mine.const_S Mine.lit_13 ?_) | (with_reducible refine Mine.const_S Mine.lit_14 ?_) | (with_reducible refine Mine.const_S Mine.lit_15 ?_) | (with_reducible refine Mine.const_S Mine.lit_16 ?_) | (with_reducible refine Mine.const_S Mine.lit_17 ?_) | (with_reducible refine Mine.const_S Mine.lit_18 ?_) | (with_reducible refine Mine.const_S Mine.lit_19 ?_) | (with_reducible refine Mine.const_S Mine.lit_20 ?_) | (with_reducible refine Mine.const_S Mine.lit_21 ?_) | (with_reducible refine Mine.const_S Mine.lit_22 ?_) | (with_reducible refine Mine.const_S Mine.lit_23 ?_) | (with_reducible refine Mine.const_S Mine.lit_24 ?_) | (with_reducible refine Mine.const_S Mine.lit_25 ?_) | (with_reducible refine Mine.const_S Mine.lit_26 ?_) | (with_reducible refine Mine.const_S Mine.lit_27 ?_) | (with_reducible refine Mine.const_S Mine.lit_28 ?_) | (with_reducible refine Mine.const_S Mine.lit_29 ?_) | (with_reducible refine Mine.const_S Mine.lit_30 ?_) | (with_reducible refine Mine.const_S Mine.lit_31 ?_) | (with_reducible refine Mine.const_S Mine.lit_32 ?_) | (with_reducible refine Mine.const_S Mine.lit_33 ?_) | (with_reducible refine Mine.const_S Mine.lit_34 ?_); intro _ _))
  (k_with "eval IfExp" => (k_here; first | (with_reducible refine Mine.ifexp_S Mine.lit_7 Mine.lit_12 (by decide) (by decide) ?_) | (with_reducible refine Mine.ifexp_S Mine.lit_9 Mine.lit_8 (by decide) (by decide) ?_)))
  (k_with "call builtin:len" => (k_here; (with_reducible show wpAny _ _ (call (Value.builtin "len") [Value.str (Mine.S _) _]) _ _ _); (refine Mine.len_S (by walk_at "OM") ?_); intro _ _))
  (k_with "truthy str" => (k_here; (with_reducible show wpAny _ _ (PySem.truthy (Value.str (Mine.S _) _)) _ _ _); (refine Mine.truthy_S (by walk_at "OM") ?_); intro _))
  (k_with "compareOp LtE str str" => (k_here; (with_reducible refine Mine.le_S ?_)))
  (k_with "compareOp Eq str str" => (k_here; (with_reducible refine Mine.eq_SS ?_)))
  (k_with "compareOp NotEq str str" => (k_here; (with_reducible refine Mine.ne_SS ?_)))
  (k_with "compareOp NotIn str str" => (k_here; (with_reducible refine Mine.notin_S ?_)))
  (k_with "binaryOp Add str str" => (k_here; (with_reducible show wpAny _ _ (binaryOp Operator.Add (Value.str (Mine.S _) _) (Value.str (Mine.S _) _)) _ _ _); (refine Mine.add_S (by walk_at "OM") ?_); intro _ _))
  (k_with "call builtin:str.find" => (k_here; (with_reducible refine Mine.find_SS ?_); intro _ _))
  (k_with "call builtin:str.startswith" => (k_here; (with_reducible refine Mine.starts_SS ?_)))
  (k_with "call builtin:str.endswith" => (k_here; (with_reducible refine Mine.ends_SS ?_)))
  (k_with "call builtin:str.strip" => (k_here; (with_reducible show wpAny _ _ (call (Value.builtin "str.strip") [Value.str (Mine.S _) _]) _ _ _); (refine Mine.strip_SS (by walk_at "OM") ?_); intro _ _))
  (k_with "subscriptTail Name Name str int" => (k_here; (with_reducible show wpAny _ _ (subscriptTail _ _ (Value.str (Mine.S _) _) (Value.int _ _)) _ _ _); (refine Mine.item_SS (by walk_at "OM") (by walk_at "OM") (by walk_at "OM") ?_); intro _ _))
  (k_with "subscriptTail Name Constant str int" => (k_here; (with_reducible show wpAny _ _ (subscriptTail _ _ (Value.str (Mine.S _) _) (Value.int _ _)) _ _ _); (refine Mine.item_SS (by walk_at "OM") (by walk_at "OM") (by walk_at "OM") ?_); intro _ _))
  (k_with "subscriptTail Name BinOp str int" => (k_here; (with_reducible show wpAny _ _ (subscriptTail _ _ (Value.str (Mine.S _) _) (Value.int _ _)) _ _ _); (refine Mine.item_SS (by walk_at "OM") (by walk_at "OM") (by walk_at "OM") ?_); intro _ _))
  (k_with "subscriptTail Name UnaryOp str int" => (k_here; (with_reducible show wpAny _ _ (subscriptTail _ _ (Value.str (Mine.S _) _) (Value.int (-1) _)) _ _ _); (refine Mine.item_SL ?_ (by walk_at "OM") ?_); rotate_left; intro _ _))
  (k_with "subscriptTail Name Name str int" => (k_here; (with_reducible show wpAny _ _ (subscriptTail _ _ (Value.str (Str.ofString _) _) (Value.int _ _)) _ _ _); (refine Mine.item_lit Mine.lit_34 (by (first | omega | exact fmod_lo _ (by decide) | exact fmod_hi _ (by decide) | fail "no bound")) (by (first | omega | exact fmod_lo _ (by decide) | exact fmod_hi _ (by decide) | fail "no bound")) (by decide) ?_); intro _ _))
  (k_with "subscriptTail Name Slice str ref" => (k_here; (with_reducible show wpAny _ _ (subscriptTail _ (Expr.Slice none (some _) none _) (Value.str (Mine.S _) _) _) _ _ _); (with_reducible rename Fr _ _ _ _ => wF); (with_reducible rename News _ _ _ _ => wN); (first | (refine Mine.slice_SS_to wF wN (by walk_at "OM") (by walk_at "OM") ?_) | (refine Mine.slice_SS_neg wF wN (by walk_at "OM") (by walk_at "OM") (by walk_at "OM") ?_)); intro _ _ _ _ _))
  (k_with "subscriptTail Name Slice str ref" => (k_here; (with_reducible show wpAny _ _ (subscriptTail _ (Expr.Slice (some _) none none _) (Value.str (Mine.S _) _) _) _ _ _); (with_reducible rename Fr _ _ _ _ => wF); (with_reducible rename News _ _ _ _ => wN); (refine Mine.slice_SS_from wF wN (by walk_at "OM") (by walk_at "OM") ?_); intro _ _ _ _ _))
  (k_with "subscriptTail Name Slice str ref" => (k_here; (with_reducible show wpAny _ _ (subscriptTail _ (Expr.Slice (some _) (some _) none _) (Value.str (Mine.S _) _) _) _ _ _); (with_reducible rename Fr _ _ _ _ => wF); (with_reducible rename News _ _ _ _ => wN); (refine Mine.slice_SS_mid wF wN (by walk_at "OM") (by walk_at "OM") (by walk_at "OM") (by walk_at "OM") ?_); intro _ _ _ _ _))
  (k_with "subscriptTail Name Slice str ref" => (k_here; (with_reducible show wpAny _ _ (subscriptTail _ (Expr.Slice none none (some _) _) (Value.str (Mine.S _) _) _) _ _ _); (with_reducible rename Fr _ _ _ _ => wF); (with_reducible rename News _ _ _ _ => wN); (refine Mine.slice_SS_rev wF wN (by walk_at "OM") ?_); intro _ _ _ _ _))
  (k_with "subscriptTail BinOp Slice str ref" => (k_here; (with_reducible show wpAny _ _ (subscriptTail _ (Expr.Slice none (some _) none _) (Value.str (Mine.S _) _) _) _ _ _); (with_reducible rename Fr _ _ _ _ => wF); (with_reducible rename News _ _ _ _ => wN); (first | (refine Mine.slice_SS_to wF wN (by walk_at "OM") (by walk_at "OM") ?_) | (refine Mine.slice_SS_neg wF wN (by walk_at "OM") (by walk_at "OM") (by walk_at "OM") ?_)); intro _ _ _ _ _))
  (k_with "subscriptTail BinOp Slice str ref" => (k_here; (with_reducible show wpAny _ _ (subscriptTail _ (Expr.Slice (some _) none none _) (Value.str (Mine.S _) _) _) _ _ _); (with_reducible rename Fr _ _ _ _ => wF); (with_reducible rename News _ _ _ _ => wN); (refine Mine.slice_SS_from wF wN (by walk_at "OM") (by walk_at "OM") ?_); intro _ _ _ _ _))
  (k_with "subscriptTail BinOp Slice str ref" => (k_here; (with_reducible show wpAny _ _ (subscriptTail _ (Expr.Slice (some _) (some _) none _) (Value.str (Mine.S _) _) _) _ _ _); (with_reducible rename Fr _ _ _ _ => wF); (with_reducible rename News _ _ _ _ => wN); (refine Mine.slice_SS_mid wF wN (by walk_at "OM") (by walk_at "OM") (by walk_at "OM") (by walk_at "OM") ?_); intro _ _ _ _ _))
  (k_with "subscriptTail BinOp Slice str ref" => (k_here; (with_reducible show wpAny _ _ (subscriptTail _ (Expr.Slice none none (some _) _) (Value.str (Mine.S _) _) _) _ _ _); (with_reducible rename Fr _ _ _ _ => wF); (with_reducible rename News _ _ _ _ => wN); (refine Mine.slice_SS_rev wF wN (by walk_at "OM") ?_); intro _ _ _ _ _))
  (k_with "pyIter ref" => ((with_reducible show wpAny _ _ (pyIter (Value.ref _)) (fun _ _ => LoopAtV _ _ _ _ _ _ _ _ _ _ _) _ _); refine Mine.Halt.go ?_))
  (k_with "pyIter str" => ((with_reducible show wpAny _ _ (pyIter (Value.str _ _)) (fun _ _ => LoopAtV _ _ _ _ _ _ _ _ _ _ _) _ _); refine Mine.Halt.go ?_))
  (k_with "exec For Name Name cons nil" => (k_here; (rename Fr _ _ _ _ => wlF); (with_unfolding_all refine For_invVF wlF (by exact rfl) (by exact rfl) ?_; k_whole)))
  (k_with "exec For Name Call cons nil" => (k_here; (rename Fr _ _ _ _ => wlF); (with_unfolding_all refine For_invVF wlF (by exact rfl) (by exact rfl) ?_; k_whole)))
  (k_with "exec For Name Subscript cons nil" => (k_here; (rename Fr _ _ _ _ => wlF); (with_unfolding_all refine For_invVF wlF (by exact rfl) (by exact rfl) ?_; k_whole)))
  (k_with "exec For Name Tuple cons nil" => (k_here; (rename Fr _ _ _ _ => wlF); (with_unfolding_all refine For_invVF wlF (by exact rfl) (by exact rfl) ?_; k_whole)))
  (k_with "KswEnd" => (refine Mine.Halt.go ?_))
  (k_with "ExitPost" => (refine Mine.Halt.go ?_))
  (k_with "LcEnd" => (refine Mine.Halt.go ?_))
  (k_with "LcBrk" => (refine Mine.Halt.go ?_))
  (k_with "LcPost" => (dsimp only [Mine.LcPost]))
  have hret' : ∀ b, isD c = b → ∀ h' tk', Fr h₀ L h' m → News h₀ L h' news → Q (.bool b) { s with heap := h', toks := tk' } := fun b e => e ▸ hret
  revert X
  k_fill
  intro X
  refine wpAny_call ?_
  k_dflt cell_enter
  repeat' (first | (k_unfold; (try dsimp only)) | ((fail_if_success (with_reducible show Mine.Halt _)); k_end; wrow_close) | walk1 | (dsimp only; walk1) | (leave1; walk_say "STEP leave1"; try dsimp only) | fail "no step")
  all_goals (refine hret' _ ?_ _ _ (by assumption) (by assumption); unfold isD; rw [decide_eq_decide]; omega)
end Mine

end
section
namespace Mine
theorem readRule_star {l : List Nat} {j r : Nat} (h1 : 0 < wordRun l 0) (h2 : wordRun l 0 < l.length) (h3 : l.getD (wordRun l 0) 0 = 42) (hj : digRun l (wordRun l 0 + 1) = j) (hr : wordRun l j = r) :
    readRule l = if j > wordRun l 0 + 1 ∧ r < l.length ∧ (l.getD r 0 = 46 ∨ l.getD r 0 = 62) then some ⟨l.take (wordRun l 0), true, l.getD (wordRun l 0 + 1) 0 - 48, (l.drop j).take (r - j), decide (l.getD r 0 = 62)⟩ else none := by
  subst hj
  subst hr
  unfold readRule
  rw [if_pos ⟨h1, h2, h3⟩]
theorem readRule_plain {l : List Nat} {p : Int} (h : ¬ (0 < wordRun l 0 ∧ wordRun l 0 < l.length ∧ l.getD (wordRun l 0) 0 = 42)) (hp : lastDigI l (wordRun l 0 - 1) = p) :
    readRule l = if p > 0 ∧ wordRun l 0 < l.length ∧ (l.getD (wordRun l 0) 0 = 46 ∨ l.getD (wordRun l 0) 0 = 62) then some ⟨l.take p.toNat, false, l.getD p.toNat 0 - 48, (l.drop (p.toNat + 1)).take (wordRun l 0 - (p.toNat + 1)), decide (l.getD (wordRun l 0) 0 = 62)⟩ else none := by
  subst hp
  unfold readRule
  rw [if_neg h]
theorem dig_next {l : List Nat} {p : Nat} (hg : GoodDig l) (hlt : p < l.length) (h : digRun l p > p) : isD (l.getD p 0) = true ∧ digRun l p = p + 1 := by
  have hd : isD (l.getD p 0) = true := by
    cases e : isD (l.getD p 0) with
    | true => rfl
    | false => rw [digRun, run_stop hlt e] at h; omega
  refine ⟨hd, ?_⟩
  rw [digRun, ← run_step hlt hd]
  by_cases hn : p + 1 < l.length
  · exact run_stop hn (hg p hd).2.2
  · exact run_end hn (by omega)
theorem one_of_drop {l : List Nat} {p : Nat} (hlt : p < l.length) : (l.drop p).take 1 = [l.getD p 0] := by
  rw [List.drop_eq_getElem_cons hlt, List.take_succ_cons]
  simp [hlt]
theorem int_digit {prog : Program} {w : World} {A : Around} {E : Value → Shared → Prop} {hp : Heap} {gg : Array GenState} {dr : Drawn} {tk : Nat} {oo : OsState} {Q : Value → Shared → Prop} {c : Nat} {t : Tok} (h1 : 49 ≤ c) (h2 : c ≤ 51) (h : ∀ t k, Q (.int ((c - 48 : Nat) : Int) t) ⟨hp, gg, dr, k, oo⟩) :
    wpAny (model prog w) A (call (.type "int") [.str (S [c]) t]) Q E ⟨hp, gg, dr, tk, oo⟩ := by
  have hc : c = 49 ∨ c = 50 ∨ c = 51 := by omega
  rcases hc with rfl | rfl | rfl
  · exact KIN.call_text (n := 1) (by decide +kernel) (by decide) (h _ _)
  · exact KIN.call_text (n := 2) (by decide +kernel) (by decide) (h _ _)
  · exact KIN.call_text (n := 3) (by decide +kernel) (by decide) (h _ _)
end Mine




namespace Mine
theorem c_read_rule {w : World} {mean : ExcName → Option Value} {mg mb : Str → Option Value} {dp un : Nat} {gd : Option (List Code)} {cn : Str} {cs : Scope} {a : Addr} {ccd : Value} {cl : List (Str × Addr)} {outer : List Env} {A₀ : Around} {base h₀ : Heap} {L : Addr} {m : Str → Option Value} {news : List (Addr × Obj)} {s : Shared} {Q E : Value → Shared → Prop}
    {l : List Nat} {t : Tok}
    (B : Below A₀ base outer h₀) (F : Fr h₀ L s.heap m) (X : (hd.heap_39 w.params).In h₀) (N : News h₀ L s.heap news) (T : Top hd.view_39 (looseW hd.view_39 [Str.ofString "_law_starts"]) mean mg mb h₀) (hk : cs.kind = .function)
    (hdp : dp + 5 < recursionLimit) (hun : un + 40 < cLine)
    (hl : l.length ≤ 1000000) (hg : GoodDig l)
    (hret : readRule l = none → ∀ h' tk', Fr h₀ L h' m → News h₀ L h' news → Q .none { s with heap := h', toks := tk' }) (hsome : ∀ r, readRule l = some r → ∀ q t1 t2 t3 h' tk', Fr h₀ L h' m → News h₀ L h' ((q, tupObj r t1 t2 t3) :: news) → (∀ p ∈ news, p.1 < q) → Q (.ref q) { s with heap := h', toks := tk' }):
    wpAny (model PySem.Challenge.rw_iv0074_01.row.prog w) (ktrTop dp un gd cn cs L a ccd cl outer) (call (.ref 35) [.str (S l) t]) Q E s := by
  w_top off
  k_with_none
  (k_with "eval Constant str" => (k_here; first | (with_reducible refine Mine.const_S Mine.lit_0 ?_) | (with_reducible refine Mine.const_S Mine.lit_1 ?_) | (with_reducible refine Mine.const_S Mine.lit_2 ?_) | (with_reducible refine Mine.const_S Mine.lit_3 ?_) | (with_reducible refine Mine.const_S Mine.lit_4 ?_) | (with_reducible refine Mine.const_S Mine.lit_5 ?_) | (with_reducible refine Mine.const_S Mine.lit_6 ?_) | (with_reducible refine Mine.const_S Mine.lit_7 ?_) | (with_reducible refine Mine.const_S Mine.lit_8 ?_) | (with_reducible refine Mine.const_S Mine.lit_9 ?_) | (with_reducible refine Mine.const_S Mine.lit_10 ?_) | (with_reducible refine Mine.const_S Mine.lit_11 ?_) | (with_reducible refine Mine.const_S Mine.lit_12 ?_) | (with_reducible refine Mine.const_S Mine.lit_13 ?_) | (with_reducible refine Mine.const_S Mine.lit_14 ?_) | (with_reducible refine Mine.const_S Mine.lit_15 ?_) | (with_reducible refine Mine.const_S Mine.lit_16 ?_) | (with_reducible refine Mine.const_S Mine.lit_17 ?_) | (with_reducible refine Mine.const_S Mine.lit_18 ?_) | (with_reducible refine Mine.const_S Mine.lit_19 ?_) | (with_reducible refine Mine.const_S Mine.lit_20 ?_) | (with_reducible refine Mine.const_S Mine.lit_21 ?_) | (with_reducible refine Mine.const_S Mine.lit_22 ?_) | (with_reducible refine Mine.const_S Mine.lit_23 ?_) | (with_reducible refine Mine.const_S Mine.lit_24 ?_) | (with_reducible refine Mine.const_S Mine.lit_25 ?_) | (with_reducible refine Mine.const_S Mine.lit_26 ?_) | (with_reducible refine Mine.const_S Mine.lit_27 ?_) | (with_reducible refine Mine.const_S Mine.lit_28 ?_) | (with_reducible refine Mine.const_S Mine.lit_29 ?_) | (with_reducible refine Mine.const_S Mine.lit_30 ?_) | (with_reducible refine Mine.const_S Mine.lit_31 ?_) | (with_reducible refine Mine.const_S Mine.lit_32 ?_) | (with_reducible refine Mine.const_S Mine.lit_33 ?_) | (with_reducible refine Mine.const_S Mine.lit_34 ?_); intro _ _))
  (k_with "eval IfExp" => (k_here; first | (with_reducible refine Mine.ifexp_S Mine.lit_7 Mine.lit_12 (by decide) (by decide) ?_) | (with_reducible refine Mine.ifexp_S Mine.lit_9 Mine.lit_8 (by decide) (by decide) ?_)))
  (k_with "call builtin:len" => (k_here; (with_reducible show wpAny _ _ (call (Value.builtin "len") [Value.str (Mine.S _) _]) _ _ _); (refine Mine.len_S (by walk_at "OM") ?_); intro _ _))
  (k_with "truthy str" => (k_here; (with_reducible show wpAny _ _ (PySem.truthy (Value.str (Mine.S _) _)) _ _ _); (refine Mine.truthy_S (by walk_at "OM") ?_); intro _))
  (k_with "compareOp LtE str str" => (k_here; (with_reducible refine Mine.le_S ?_)))
  (k_with "compareOp Eq str str" => (k_here; (with_reducible refine Mine.eq_SS ?_)))
  (k_with "compareOp NotEq str str" => (k_here; (with_reducible refine Mine.ne_SS ?_)))
  (k_with "compareOp NotIn str str" => (k_here; (with_reducible refine Mine.notin_S ?_)))
  (k_with "binaryOp Add str str" => (k_here; (with_reducible show wpAny _ _ (binaryOp Operator.Add (Value.str (Mine.S _) _) (Value.str (Mine.S _) _)) _ _ _); (refine Mine.add_S (by walk_at "OM") ?_); intro _ _))
  (k_with "call builtin:str.find" => (k_here; (with_reducible refine Mine.find_SS ?_); intro _ _))
  (k_with "call builtin:str.startswith" => (k_here; (with_reducible refine Mine.starts_SS ?_)))
  (k_with "call builtin:str.endswith" => (k_here; (with_reducible refine Mine.ends_SS ?_)))
  (k_with "call builtin:str.strip" => (k_here; (with_reducible show wpAny _ _ (call (Value.builtin "str.strip") [Value.str (Mine.S _) _]) _ _ _); (refine Mine.strip_SS (by walk_at "OM") ?_); intro _ _))
  (k_with "subscriptTail Name Name str int" => (k_here; (with_reducible show wpAny _ _ (subscriptTail _ _ (Value.str (Mine.S _) _) (Value.int _ _)) _ _ _); (refine Mine.item_SS (by walk_at "OM") (by walk_at "OM") (by walk_at "OM") ?_); intro _ _))
  (k_with "subscriptTail Name Constant str int" => (k_here; (with_reducible show wpAny _ _ (subscriptTail _ _ (Value.str (Mine.S _) _) (Value.int _ _)) _ _ _); (refine Mine.item_SS (by walk_at "OM") (by walk_at "OM") (by walk_at "OM") ?_); intro _ _))
  (k_with "subscriptTail Name BinOp str int" => (k_here; (with_reducible show wpAny _ _ (subscriptTail _ _ (Value.str (Mine.S _) _) (Value.int _ _)) _ _ _); (refine Mine.item_SS (by walk_at "OM") (by walk_at "OM") (by walk_at "OM") ?_); intro _ _))
  (k_with "subscriptTail Name UnaryOp str int" => (k_here; (with_reducible show wpAny _ _ (subscriptTail _ _ (Value.str (Mine.S _) _) (Value.int (-1) _)) _ _ _); (refine Mine.item_SL ?_ (by walk_at "OM") ?_); rotate_left; intro _ _))
  (k_with "subscriptTail Name Name str int" => (k_here; (with_reducible show wpAny _ _ (subscriptTail _ _ (Value.str (Str.ofString _) _) (Value.int _ _)) _ _ _); (refine Mine.item_lit Mine.lit_34 (by (first | omega | exact fmod_lo _ (by decide) | exact fmod_hi _ (by decide) | fail "no bound")) (by (first | omega | exact fmod_lo _ (by decide) | exact fmod_hi _ (by decide) | fail "no bound")) (by decide) ?_); intro _ _))
  (k_with "subscriptTail Name Slice str ref" => (k_here; (with_reducible show wpAny _ _ (subscriptTail _ (Expr.Slice none (some _) none _) (Value.str (Mine.S _) _) _) _ _ _); (with_reducible rename Fr _ _ _ _ => wF); (with_reducible rename News _ _ _ _ => wN); (first | (refine Mine.slice_SS_to wF wN (by walk_at "OM") (by walk_at "OM") ?_) | (refine Mine.slice_SS_neg wF wN (by walk_at "OM") (by walk_at "OM") (by walk_at "OM") ?_)); intro _ _ _ _ _))
  (k_with "subscriptTail Name Slice str ref" => (k_here; (with_reducible show wpAny _ _ (subscriptTail _ (Expr.Slice (some _) none none _) (Value.str (Mine.S _) _) _) _ _ _); (with_reducible rename Fr _ _ _ _ => wF); (with_reducible rename News _ _ _ _ => wN); (refine Mine.slice_SS_from wF wN (by walk_at "OM") (by walk_at "OM") ?_); intro _ _ _ _ _))
  (k_with "subscriptTail Name Slice str ref" => (k_here; (with_reducible show wpAny _ _ (subscriptTail _ (Expr.Slice (some _) (some _) none _) (Value.str (Mine.S _) _) _) _ _ _); (with_reducible rename Fr _ _ _ _ => wF); (with_reducible rename News _ _ _ _ => wN); (refine Mine.slice_SS_mid wF wN (by walk_at "OM") (by walk_at "OM") (by walk_at "OM") (by walk_at "OM") ?_); intro _ _ _ _ _))
  (k_with "subscriptTail Name Slice str ref" => (k_here; (with_reducible show wpAny _ _ (subscriptTail _ (Expr.Slice none none (some _) _) (Value.str (Mine.S _) _) _) _ _ _); (with_reducible rename Fr _ _ _ _ => wF); (with_reducible rename News _ _ _ _ => wN); (refine Mine.slice_SS_rev wF wN (by walk_at "OM") ?_); intro _ _ _ _ _))
  (k_with "subscriptTail BinOp Slice str ref" => (k_here; (with_reducible show wpAny _ _ (subscriptTail _ (Expr.Slice none (some _) none _) (Value.str (Mine.S _) _) _) _ _ _); (with_reducible rename Fr _ _ _ _ => wF); (with_reducible rename News _ _ _ _ => wN); (first | (refine Mine.slice_SS_to wF wN (by walk_at "OM") (by walk_at "OM") ?_) | (refine Mine.slice_SS_neg wF wN (by walk_at "OM") (by walk_at "OM") (by walk_at "OM") ?_)); intro _ _ _ _ _))
  (k_with "subscriptTail BinOp Slice str ref" => (k_here; (with_reducible show wpAny _ _ (subscriptTail _ (Expr.Slice (some _) none none _) (Value.str (Mine.S _) _) _) _ _ _); (with_reducible rename Fr _ _ _ _ => wF); (with_reducible rename News _ _ _ _ => wN); (refine Mine.slice_SS_from wF wN (by walk_at "OM") (by walk_at "OM") ?_); intro _ _ _ _ _))
  (k_with "subscriptTail BinOp Slice str ref" => (k_here; (with_reducible show wpAny _ _ (subscriptTail _ (Expr.Slice (some _) (some _) none _) (Value.str (Mine.S _) _) _) _ _ _); (with_reducible rename Fr _ _ _ _ => wF); (with_reducible rename News _ _ _ _ => wN); (refine Mine.slice_SS_mid wF wN (by walk_at "OM") (by walk_at "OM") (by walk_at "OM") (by walk_at "OM") ?_); intro _ _ _ _ _))
  (k_with "subscriptTail BinOp Slice str ref" => (k_here; (with_reducible show wpAny _ _ (subscriptTail _ (Expr.Slice none none (some _) _) (Value.str (Mine.S _) _) _) _ _ _); (with_reducible rename Fr _ _ _ _ => wF); (with_reducible rename News _ _ _ _ => wN); (refine Mine.slice_SS_rev wF wN (by walk_at "OM") ?_); intro _ _ _ _ _))
  (k_with "pyIter ref" => ((with_reducible show wpAny _ _ (pyIter (Value.ref _)) (fun _ _ => LoopAtV _ _ _ _ _ _ _ _ _ _ _) _ _); refine Mine.Halt.go ?_))
  (k_with "pyIter str" => ((with_reducible show wpAny _ _ (pyIter (Value.str _ _)) (fun _ _ => LoopAtV _ _ _ _ _ _ _ _ _ _ _) _ _); refine Mine.Halt.go ?_))
  (k_with "exec For Name Name cons nil" => (k_here; (rename Fr _ _ _ _ => wlF); (with_unfolding_all refine For_invVF wlF (by exact rfl) (by exact rfl) ?_; k_whole)))
  (k_with "exec For Name Call cons nil" => (k_here; (rename Fr _ _ _ _ => wlF); (with_unfolding_all refine For_invVF wlF (by exact rfl) (by exact rfl) ?_; k_whole)))
  (k_with "exec For Name Subscript cons nil" => (k_here; (rename Fr _ _ _ _ => wlF); (with_unfolding_all refine For_invVF wlF (by exact rfl) (by exact rfl) ?_; k_whole)))
  (k_with "exec For Name Tuple cons nil" => (k_here; (rename Fr _ _ _ _ => wlF); (with_unfolding_all refine For_invVF wlF (by exact rfl) (by exact rfl) ?_; k_whole)))
  (k_with "KswEnd" => (refine Mine.Halt.go ?_))
  (k_with "ExitPost" => (refine Mine.Halt.go ?_))
  (k_with "LcEnd" => (refine Mine.Halt.go ?_))
  (k_with "LcBrk" => (refine Mine.Halt.go ?_))
  (k_with "LcPost" => (dsimp only [Mine.LcPost]))
  (k_with "call ref" => (k_here; (with_reducible show wpAny _ _ (call (Value.ref 21) [Value.str (Mine.S _) _, Value.int _ _]) _ _ _); k_dflt (first | (refine Mine.c_word_run  (by k_asm) (by k_asm) (by k_asm) (by k_asm) (by k_asm) (by first | exact rfl | assumption) (by ktr_room) (by ktr_units) (by walk_at "OM") (by walk_at "OM") ?_; k_whole; intro _ _ _ _ _; (try dsimp only); (try k_sweep); (try k_fold)) | (refine Mine.c_word_run (k := 0) (by k_asm) (by k_asm) (by k_asm) (by k_asm) (by k_asm) (by first | exact rfl | assumption) (by ktr_room) (by ktr_units) (by walk_at "OM") (by walk_at "OM") ?_; k_whole; intro _ _ _ _ _; (try dsimp only); (try k_sweep); (try k_fold)))))
  (k_with "call ref" => (k_here; (with_reducible show wpAny _ _ (call (Value.ref 28) [Value.str (Mine.S _) _]) _ _ _); k_dflt (first | (refine Mine.c_is_figure  (by k_asm) (by k_asm) (by k_asm) (by k_asm) (by k_asm) (by first | exact rfl | assumption) (by ktr_room) (by ktr_units)  ?_; k_whole; intro _ _ _ _; (try dsimp only); (try k_sweep); (try k_fold)))))
  (k_with "call type:int" => (refine Mine.Halt.go ?_))
  (k_with "KswEnd" => (refine Mine.Halt.go ?_))
  (k_with "ExitPost" => (refine Mine.Halt.go ?_))
  (k_with "exec If" => (refine Mine.Halt.go ?_))
  (k_with "TestIs" => (refine Mine.Halt.go ?_))
  k_with "exec While BoolOp cons nil" => (refine Halt.go ?_)
  revert X
  k_fill
  intro X
  refine wpAny_call ?_
  k_dflt cell_enter
  rename_i g' L' h' FG' F' N' B' X' T'
  replace F' := fr_norm [(Str.ofString "line", .str (S l) t)] F' rfl
  have hw0 : wordRun l 0 ≤ l.length := run_le (Nat.zero_le _)
  repeat' (first | (k_unfold; (try dsimp only)) | ((fail_if_success (with_reducible show Mine.Halt _)); k_end; wrow_close) | walk1 | (dsimp only; walk1) | (leave1; walk_say "STEP leave1"; try dsimp only) | fail "no step")
  (with_reducible rename Fr _ _ _ _ => hF)
  (with_reducible rename News _ _ _ _ => hN)
  refine Halt.out ?_
  refine If_bool (decide (0 < wordRun l 0 ∧ wordRun l 0 < l.length ∧ l.getD (wordRun l 0) 0 = 42)) hF hN ?_ ?_ ?_
  · repeat' (first | (k_unfold; (try dsimp only)) | ((fail_if_success (with_reducible show Mine.Halt _)); k_end; wrow_close) | walk1 | (dsimp only; walk1) | (leave1; walk_say "STEP leave1"; try dsimp only) | fail "no step")
    all_goals (
      (try dsimp only)
      refine Halt.out (test_is (by assumption) (by assumption) ?_)
      (try simp only [Int.toNat_natCast, List.cons.injEq, and_true] at *)
      first
      | (refine (decide_eq_true ?_).symm; first | exact ⟨Int.natCast_pos.mp (by assumption), Int.ofNat_lt.mp (by assumption), by assumption⟩ | exact ⟨Mine.cast_succ_lt (by assumption), Int.ofNat_lt.mp (by assumption), .inl (by assumption)⟩ | exact ⟨Mine.cast_succ_lt (by assumption), Int.ofNat_lt.mp (by assumption), .inr (by assumption)⟩ | exact ⟨by assumption, Int.ofNat_lt.mp (by assumption), .inl (by assumption)⟩ | exact ⟨by assumption, Int.ofNat_lt.mp (by assumption), .inr (by assumption)⟩ | omega)
      | (refine (decide_eq_false ?_).symm; first | exact fun h => absurd h.2.2 (by assumption) | exact fun h => h.2.2.elim (by assumption) (by assumption) | exact fun h => absurd (Int.ofNat_lt.mpr h.2.1) (by assumption) | exact fun h => absurd (Int.natCast_pos.mpr h.1) (by assumption) | exact fun h => absurd h.1 (by assumption) | exact fun h => absurd (Int.ofNat_lt.mpr h.1) (by assumption) | omega))
  · intro hc1 h9 tk9 F' N'
    obtain ⟨ha1, ha2, ha3⟩ := of_decide_eq_true hc1
    clear hF hN
    repeat' (first | (k_unfold; (try dsimp only)) | ((fail_if_success (with_reducible show Mine.Halt _)); k_end; wrow_close) | walk1 | (dsimp only; walk1) | (leave1; walk_say "STEP leave1"; try dsimp only) | fail "no step")
    (with_reducible rename Fr _ _ _ _ => F')
    (with_reducible rename News _ _ _ _ => N')
    refine Halt.out ?_
    refine' while_cut (σ := Nat × Tok) (fun _ => news) (fun c => [(Str.ofString "q", .int (c.1 : Nat) c.2)]) [] (fun c => wordRun l 0 + 1 ≤ c.1 ∧ c.1 ≤ l.length ∧ digRun l c.1 = digRun l (wordRun l 0 + 1)) (fun c => l.length - c.1) (fun c => wordRun l 0 + 1 ≤ c.1 ∧ c.1 ≤ l.length ∧ digRun l (wordRun l 0 + 1) = c.1) (wordRun l 0 + 1, _) F' N' ?kk ⟨Nat.le_refl _, by omega, rfl⟩ ?turn ?rest
    case kk => kst_all
    case turn =>
      clear F' N'
      rintro ⟨j, tj⟩ u h tk ⟨hj1, hj2, hj3⟩ F' N'
      dsimp only at hj1 hj2 hj3
      try k_fold
      repeat' (first | (k_unfold; (try dsimp only)) | ((fail_if_success (with_reducible show Mine.Halt _)); k_end; wrow_close) | walk1 | (dsimp only; walk1) | (leave1; walk_say "STEP leave1"; try dsimp only) | fail "no step")
      all_goals (
        (try dsimp only at *)
        (try simp only [Int.toNat_natCast] at *)
        first
        | (refine Halt.out (ksw_end (j + 1, _) (by assumption) (by assumption) (fun _ h => h) trivial (by kst_all) (by first | (intro z h2 h3; (try dsimp only [kstB]); (repeat (refine Eq.trans (if_neg (by (first | exact h1 | exact Mine.off_stored h3 (by decide +kernel) | ((fail_if_success (exact Mine.not_stored h3)); exact Mine.sub_stored h3 (by decide +kernel)) | exact h2 _ (.head _) | exact h2 _ (.tail _ (.head _)) | exact h2 _ (.tail _ (.tail _ (.head _))) | exact h2 _ (.tail _ (.tail _ (.tail _ (.head _))))))) ?_)); first | exact if_neg (Mine.not_stored h3) | exact rfl) | (intro z h2 h3; (try simp only [List.forall_mem_cons, List.not_mem_nil, false_implies, implies_true, and_true, ne_eq] at h2); (try simp only [List.contains_cons, List.contains_nil, Bool.or_false, Bool.or_eq_false_iff, beq_eq_false_iff_ne, ne_eq] at h3); simp [kstB, h2, h3])) ?_ (by dsimp only; first | exact down1 (by assumption) | omega))
           exact ⟨by dsimp only; omega, by dsimp only; omega, (run_step (by omega) (by assumption)).trans hj3⟩)
        | (refine Halt.out (exit_at (j, _) (by assumption) (by assumption) (fun _ h => h) (by kst_all) (by first | (intro z h2 h3; (try dsimp only [kstB]); (repeat (refine Eq.trans (if_neg (by (first | exact h1 | exact Mine.off_stored h3 (by decide +kernel) | ((fail_if_success (exact Mine.not_stored h3)); exact Mine.sub_stored h3 (by decide +kernel)) | exact h2 _ (.head _) | exact h2 _ (.tail _ (.head _)) | exact h2 _ (.tail _ (.tail _ (.head _))) | exact h2 _ (.tail _ (.tail _ (.tail _ (.head _))))))) ?_)); first | exact if_neg (Mine.not_stored h3) | exact rfl) | (intro z h2 h3; (try simp only [List.forall_mem_cons, List.not_mem_nil, false_implies, implies_true, and_true, ne_eq] at h2); (try simp only [List.contains_cons, List.contains_nil, Bool.or_false, Bool.or_eq_false_iff, beq_eq_false_iff_ne, ne_eq] at h3); simp [kstB, h2, h3])) ⟨by dsimp only; omega, by dsimp only; omega, ?_⟩)
           rw [← hj3]
           first
           | exact run_end (by omega) hj2
           | exact run_stop (by omega) (by assumption)))
    case rest =>
      clear F' N'
      rintro ⟨j, tj⟩ u h tk ⟨hj1, hj2, hj3⟩ F' N'
      dsimp only at hj1 hj2 hj3 F' N' ⊢
      have hjw : wordRun l j ≤ l.length := run_le hj2
      have hjg : j ≤ wordRun l j := run_ge _ _ _
      repeat' (first | (k_unfold; (try dsimp only)) | ((fail_if_success (with_reducible show Mine.Halt _)); k_end; wrow_close) | walk1 | (dsimp only; walk1) | (leave1; walk_say "STEP leave1"; try dsimp only) | fail "no step")
      (with_reducible rename Fr _ _ _ _ => hF)
      (with_reducible rename News _ _ _ _ => hN)
      refine Halt.out ?_
      refine If_bool (decide (j > wordRun l 0 + 1 ∧ wordRun l j < l.length ∧ (l.getD (wordRun l j) 0 = 46 ∨ l.getD (wordRun l j) 0 = 62))) hF hN ?_ ?_ ?_
      · repeat' (first | (k_unfold; (try dsimp only)) | ((fail_if_success (with_reducible show Mine.Halt _)); k_end; wrow_close) | walk1 | (dsimp only; walk1) | (leave1; walk_say "STEP leave1"; try dsimp only) | fail "no step")
        all_goals (
          (try dsimp only)
          refine Halt.out (test_is (by assumption) (by assumption) ?_)
          (try simp only [Int.toNat_natCast, List.cons.injEq, and_true] at *)
          first
          | (refine (decide_eq_true ?_).symm; first | exact ⟨Int.natCast_pos.mp (by assumption), Int.ofNat_lt.mp (by assumption), by assumption⟩ | exact ⟨Mine.cast_succ_lt (by assumption), Int.ofNat_lt.mp (by assumption), .inl (by assumption)⟩ | exact ⟨Mine.cast_succ_lt (by assumption), Int.ofNat_lt.mp (by assumption), .inr (by assumption)⟩ | exact ⟨by assumption, Int.ofNat_lt.mp (by assumption), .inl (by assumption)⟩ | exact ⟨by assumption, Int.ofNat_lt.mp (by assumption), .inr (by assumption)⟩ | omega)
          | (refine (decide_eq_false ?_).symm; first | exact fun h => absurd h.2.2 (by assumption) | exact fun h => h.2.2.elim (by assumption) (by assumption) | exact fun h => absurd (Int.ofNat_lt.mpr h.2.1) (by assumption) | exact fun h => absurd (Int.natCast_pos.mpr h.1) (by assumption) | exact fun h => absurd h.1 (by assumption) | exact fun h => absurd (Int.ofNat_lt.mpr h.1) (by assumption) | omega))
      · intro hc2 h9 tk9 F' N'
        have hc3 := of_decide_eq_true hc2
        obtain ⟨hb1, hb2, hb3⟩ := hc3
        clear hF hN
        repeat' (first | (k_unfold; (try dsimp only)) | ((fail_if_success (with_reducible show Mine.Halt _)); k_end; wrow_close) | walk1 | (dsimp only; walk1) | (leave1; walk_say "STEP leave1"; try dsimp only) | fail "no step")
        refine Halt.out ?_
        obtain ⟨hd1, hd2⟩ := dig_next hg (p := wordRun l 0 + 1) (by omega) (by omega)
        have e : List.take ((j : Int) - ((wordRun l 0 : Nat) + 1)).toNat (List.drop (((wordRun l 0 : Nat) : Int) + 1).toNat l) = [l.getD (wordRun l 0 + 1) 0] := by
          rw [one_left (hj3.symm.trans hd2), toNat_succ]
          exact one_of_drop (by omega)
        rw [e]
        refine int_digit (hg _ hd1).1 (hg _ hd1).2.1 ?_
        intro t8 k8
        repeat' (first | (k_unfold; (try dsimp only)) | ((fail_if_success (with_reducible show Mine.Halt _)); k_end; wrow_close) | walk1 | (dsimp only; walk1) | (leave1; walk_say "STEP leave1"; try dsimp only) | fail "no step")
        all_goals (
          (try simp only [Int.toNat_natCast, Int.toNat_sub, List.cons.injEq, and_true] at *)
          refine hsome ⟨l.take (wordRun l 0), true, l.getD (wordRun l 0 + 1) 0 - 48, (l.drop j).take (wordRun l j - j), decide (l.getD (wordRun l j) 0 = 62)⟩ ?_ _ _ _ _ _ _ (by assumption) (by assumption) (by assumption)
          rw [readRule_star ha1 ha2 ha3 hj3 rfl, if_pos ⟨hb1, hb2, hb3⟩])
      · intro hc2 h9 tk9 F' N'
        have hc3 := of_decide_eq_false hc2
        clear hF hN
        repeat' (first | (k_unfold; (try dsimp only)) | ((fail_if_success (with_reducible show Mine.Halt _)); k_end; wrow_close) | walk1 | (dsimp only; walk1) | (leave1; walk_say "STEP leave1"; try dsimp only) | fail "no step")
        refine hret ?_ _ _ (by assumption) (by assumption)
        rw [readRule_star ha1 ha2 ha3 hj3 rfl, if_neg hc3]
  · intro hc1 h9 tk9 F' N'
    have hns : ¬ (0 < wordRun l 0 ∧ wordRun l 0 < l.length ∧ l.getD (wordRun l 0) 0 = 42) := of_decide_eq_false hc1
    clear hF hN
    repeat' (first | (k_unfold; (try dsimp only)) | ((fail_if_success (with_reducible show Mine.Halt _)); k_end; wrow_close) | walk1 | (dsimp only; walk1) | (leave1; walk_say "STEP leave1"; try dsimp only) | fail "no step")
    (with_reducible rename Fr _ _ _ _ => F')
    (with_reducible rename News _ _ _ _ => N')
    refine Halt.out ?_
    refine' while_cut (σ := Int × Tok) (fun _ => news) (fun c => [(Str.ofString "p", .int c.1 c.2)]) [] (fun c => c.1 ≤ wordRun l 0 - 1 ∧ -1 ≤ c.1 ∧ lastDigI l c.1 = lastDigI l (wordRun l 0 - 1)) (fun c => (c.1 + 1).toNat) (fun c => c.1 ≤ wordRun l 0 - 1 ∧ (c.1 > 0 → isD (l.getD c.1.toNat 0) = true) ∧ lastDigI l (wordRun l 0 - 1) = c.1) ((wordRun l 0 : Int) - 1, _) F' N' ?kk ⟨by dsimp only; omega, by dsimp only; omega, rfl⟩ ?turn ?rest
    case kk => kst_all
    case turn =>
      clear F' N'
      rintro ⟨p, tj⟩ u h tk ⟨hj1, hj2, hj3⟩ F' N'
      dsimp only at hj1 hj2 hj3 F' N'
      try k_fold
      repeat' (first | (k_unfold; (try dsimp only)) | ((fail_if_success (with_reducible show Mine.Halt _)); k_end; wrow_close) | walk1 | (dsimp only; walk1) | (leave1; walk_say "STEP leave1"; try dsimp only) | fail "no step")
      all_goals (
        try dsimp only at *
        first
        | (refine Halt.out (ksw_end (p - 1, _) (by assumption) (by assumption) (fun _ h => h) trivial (by kst_all) (by first | (intro z h2 h3; (try dsimp only [kstB]); (repeat (refine Eq.trans (if_neg (by (first | exact h1 | exact Mine.off_stored h3 (by decide +kernel) | ((fail_if_success (exact Mine.not_stored h3)); exact Mine.sub_stored h3 (by decide +kernel)) | exact h2 _ (.head _) | exact h2 _ (.tail _ (.head _)) | exact h2 _ (.tail _ (.tail _ (.head _))) | exact h2 _ (.tail _ (.tail _ (.tail _ (.head _))))))) ?_)); first | exact if_neg (Mine.not_stored h3) | exact rfl) | (intro z h2 h3; (try simp only [List.forall_mem_cons, List.not_mem_nil, false_implies, implies_true, and_true, ne_eq] at h2); (try simp only [List.contains_cons, List.contains_nil, Bool.or_false, Bool.or_eq_false_iff, beq_eq_false_iff_ne, ne_eq] at h3); simp [kstB, h2, h3])) ?_ (by dsimp only; first | exact down2 (by assumption) | omega))
           exact ⟨by dsimp only; omega, by dsimp only; omega, (lastDigI_miss (by omega) (by assumption)).trans hj3⟩)
        | (refine Halt.out (exit_at (p, _) (by assumption) (by assumption) (fun _ h => h) (by kst_all) (by first | (intro z h2 h3; (try dsimp only [kstB]); (repeat (refine Eq.trans (if_neg (by (first | exact h1 | exact Mine.off_stored h3 (by decide +kernel) | ((fail_if_success (exact Mine.not_stored h3)); exact Mine.sub_stored h3 (by decide +kernel)) | exact h2 _ (.head _) | exact h2 _ (.tail _ (.head _)) | exact h2 _ (.tail _ (.tail _ (.head _))) | exact h2 _ (.tail _ (.tail _ (.tail _ (.head _))))))) ?_)); first | exact if_neg (Mine.not_stored h3) | exact rfl) | (intro z h2 h3; (try simp only [List.forall_mem_cons, List.not_mem_nil, false_implies, implies_true, and_true, ne_eq] at h2); (try simp only [List.contains_cons, List.contains_nil, Bool.or_false, Bool.or_eq_false_iff, beq_eq_false_iff_ne, ne_eq] at h3); simp [kstB, h2, h3])) ⟨by dsimp only; omega, by dsimp only; intro hp0; first | assumption | omega, ?_⟩)
           rw [← hj3]
           first
           | exact lastDigI_low (by omega)
           | exact lastDigI_hit (by omega) (by assumption)))
    case rest =>
      clear F' N'
      rintro ⟨p, tj⟩ u h tk ⟨hj1, hj2, hj3⟩ F' N'
      dsimp only at hj1 hj2 hj3 F' N' ⊢
      repeat' (first | (k_unfold; (try dsimp only)) | ((fail_if_success (with_reducible show Mine.Halt _)); k_end; wrow_close) | walk1 | (dsimp only; walk1) | (leave1; walk_say "STEP leave1"; try dsimp only) | fail "no step")
      (with_reducible rename Fr _ _ _ _ => hF)
      (with_reducible rename News _ _ _ _ => hN)
      refine Halt.out ?_
      refine If_bool (decide (p > 0 ∧ wordRun l 0 < l.length ∧ (l.getD (wordRun l 0) 0 = 46 ∨ l.getD (wordRun l 0) 0 = 62))) hF hN ?_ ?_ ?_
      · repeat' (first | (k_unfold; (try dsimp only)) | ((fail_if_success (with_reducible show Mine.Halt _)); k_end; wrow_close) | walk1 | (dsimp only; walk1) | (leave1; walk_say "STEP leave1"; try dsimp only) | fail "no step")
        all_goals (
          (try dsimp only)
          refine Halt.out (test_is (by assumption) (by assumption) ?_)
          (try simp only [Int.toNat_natCast, List.cons.injEq, and_true] at *)
          first
          | (refine (decide_eq_true ?_).symm; first | exact ⟨Int.natCast_pos.mp (by assumption), Int.ofNat_lt.mp (by assumption), by assumption⟩ | exact ⟨Mine.cast_succ_lt (by assumption), Int.ofNat_lt.mp (by assumption), .inl (by assumption)⟩ | exact ⟨Mine.cast_succ_lt (by assumption), Int.ofNat_lt.mp (by assumption), .inr (by assumption)⟩ | exact ⟨by assumption, Int.ofNat_lt.mp (by assumption), .inl (by assumption)⟩ | exact ⟨by assumption, Int.ofNat_lt.mp (by assumption), .inr (by assumption)⟩ | omega)
          | (refine (decide_eq_false ?_).symm; first | exact fun h => absurd h.2.2 (by assumption) | exact fun h => h.2.2.elim (by assumption) (by assumption) | exact fun h => absurd (Int.ofNat_lt.mpr h.2.1) (by assumption) | exact fun h => absurd (Int.natCast_pos.mpr h.1) (by assumption) | exact fun h => absurd h.1 (by assumption) | exact fun h => absurd (Int.ofNat_lt.mpr h.1) (by assumption) | omega))
      · intro hc2 h9 tk9 F' N'
        obtain ⟨hb1, hb2, hb3⟩ := of_decide_eq_true hc2
        clear hF hN
        repeat' (first | (k_unfold; (try dsimp only)) | ((fail_if_success (with_reducible show Mine.Halt _)); k_end; wrow_close) | walk1 | (dsimp only; walk1) | (leave1; walk_say "STEP leave1"; try dsimp only) | fail "no step")
        refine Halt.out ?_
        have hd := hg _ (hj2 (by omega))
        refine int_digit hd.1 hd.2.1 ?_
        intro t8 k8
        repeat' (first | (k_unfold; (try dsimp only)) | ((fail_if_success (with_reducible show Mine.Halt _)); k_end; wrow_close) | walk1 | (dsimp only; walk1) | (leave1; walk_say "STEP leave1"; try dsimp only) | fail "no step")
        all_goals (
          (try simp only [Int.toNat_natCast, List.cons.injEq, and_true] at *)
          have e1 : (p + 1).toNat = p.toNat + 1 := toNat_p1 hb1
          have e2 : ((wordRun l 0 : Int) - (p + 1)).toNat = wordRun l 0 - (p.toNat + 1) := sub_p1 hb1
          refine hsome ⟨l.take p.toNat, false, l.getD p.toNat 0 - 48, (l.drop (p.toNat + 1)).take (wordRun l 0 - (p.toNat + 1)), decide (l.getD (wordRun l 0) 0 = 62)⟩ ?_ _ _ _ _ _ _ (by assumption) (by rename News _ _ _ _ => kN9; rw [e1, e2] at kN9; exact kN9) (by assumption)
          rw [readRule_plain hns hj3, if_pos ⟨hb1, hb2, hb3⟩])
      · intro hc2 h9 tk9 F' N'
        have hc3 := of_decide_eq_false hc2
        clear hF hN
        repeat' (first | (k_unfold; (try dsimp only)) | ((fail_if_success (with_reducible show Mine.Halt _)); k_end; wrow_close) | walk1 | (dsimp only; walk1) | (leave1; walk_say "STEP leave1"; try dsimp only) | fail "no step")
        refine hret ?_ _ _ (by assumption) (by assumption)
        rw [readRule_plain hns hj3, if_neg hc3]
end Mine

end
section
namespace Mine
noncomputable def letters : List Nat := [97, 101, 105, 111, 117, 115, 116, 110, 114, 108, 100, 109, 99, 112, 104, 103, 98, 118, 102, 121, 119, 107, 120, 106, 113, 122]
/-- _law_spell: so many letters out of a number, and what is left of it -/
noncomputable def spell (n : Int) (k : Nat) : List Nat := (List.range k).map fun i => letters.getD (n / 26 ^ i % 26).toNat 0
noncomputable def spellRest (n : Int) (k : Nat) : Int := n / 26 ^ k
theorem spell_succ (n : Int) (k : Nat) : spell n (k + 1) = spell n k ++ [letters.getD (spellRest n k % 26).toNat 0] := by
  simp [spell, spellRest, List.range_succ]
theorem spellRest_succ (n : Int) (k : Nat) : spellRest n (k + 1) = spellRest n k / 26 := by
  unfold spellRest
  rw [Int.pow_succ]
  exact (Int.ediv_ediv_of_nonneg (Int.le_of_lt (Int.pow_pos (by decide)))).symm
theorem spellRest_nn {n : Int} (h : 0 ≤ n) (k : Nat) : 0 ≤ spellRest n k := Int.ediv_nonneg h (Int.le_of_lt (Int.pow_pos (by decide)))
theorem spell_length (n : Int) (k : Nat) : (spell n k).length = k := by simp [spell]
end Mine

namespace Mine
theorem c_law_spell {w : World} {mean : ExcName → Option Value} {mg mb : Str → Option Value} {dp un : Nat} {gd : Option (List Code)} {cn : Str} {cs : Scope} {a : Addr} {ccd : Value} {cl : List (Str × Addr)} {outer : List Env} {A₀ : Around} {base h₀ : Heap} {L : Addr} {m : Str → Option Value} {news : List (Addr × Obj)} {s : Shared} {Q E : Value → Shared → Prop}
    {n : Int} {t t' : Tok} {k : Nat}
    (B : Below A₀ base outer h₀) (F : Fr h₀ L s.heap m) (X : (hd.heap_39 w.params).In h₀) (N : News h₀ L s.heap news) (T : Top hd.view_39 (looseW hd.view_39 [Str.ofString "_law_starts"]) mean mg mb h₀) (hk : cs.kind = .function)
    (hdp : dp + 3 < recursionLimit) (hun : un + 30 < cLine)
    (hn : 0 ≤ n) (hk3 : k ≤ 1000)
    (hret : ∀ q t1 t2 h' tk', Fr h₀ L h' m → News h₀ L h' ((q, { cls := .type "tuple", data := .seq [.int (spellRest n k) t1, .str (S (spell n k)) t2].toArray }) :: news) → (∀ p ∈ news, p.1 < q) → Q (.ref q) { s with heap := h', toks := tk' }) :
    wpAny (model PySem.Challenge.rw_iv0074_01.row.prog w) (ktrTop dp un gd cn cs L a ccd cl outer) (call (.ref 90) [.int n t, .int (k : Nat) t']) Q E s := by
  w_top off
  k_with_none
  (k_with "eval Constant str" => (k_here; first | (with_reducible refine Mine.const_S Mine.lit_0 ?_) | (with_reducible refine Mine.const_S Mine.lit_1 ?_) | (with_reducible refine Mine.const_S Mine.lit_2 ?_) | (with_reducible refine Mine.const_S Mine.lit_3 ?_) | (with_reducible refine Mine.const_S Mine.lit_4 ?_) | (with_reducible refine Mine.const_S Mine.lit_5 ?_) | (with_reducible refine Mine.const_S Mine.lit_6 ?_) | (with_reducible refine Mine.const_S Mine.lit_7 ?_) | (with_reducible refine Mine.const_S Mine.lit_8 ?_) | (with_reducible refine Mine.const_S Mine.lit_9 ?_) | (with_reducible refine Mine.const_S Mine.lit_10 ?_) | (with_reducible refine Mine.const_S Mine.lit_11 ?_) | (with_reducible refine Mine.const_S Mine.lit_12 ?_) | (with_reducible refine Mine.const_S Mine.lit_13 ?_) | (with_reducible refine Mine.const_S Mine.lit_14 ?_) | (with_reducible refine Mine.const_S Mine.lit_15 ?_) | (with_reducible refine Mine.const_S Mine.lit_16 ?_) | (with_reducible refine Mine.const_S Mine.lit_17 ?_) | (with_reducible refine Mine.const_S Mine.lit_18 ?_) | (with_reducible refine Mine.const_S Mine.lit_19 ?_) | (with_reducible refine Mine.const_S Mine.lit_20 ?_) | (with_reducible refine Mine.const_S Mine.lit_21 ?_) | (with_reducible refine Mine.const_S Mine.lit_22 ?_) | (with_reducible refine Mine.const_S Mine.lit_23 ?_) | (with_reducible refine Mine.const_S Mine.lit_24 ?_) | (with_reducible refine Mine.const_S Mine.lit_25 ?_) | (with_reducible refine Mine.const_S Mine.lit_26 ?_) | (with_reducible refine Mine.const_S Mine.lit_27 ?_) | (with_reducible refine Mine.const_S Mine.lit_28 ?_) | (with_reducible refine Mine.const_S Mine.lit_29 ?_) | (with_reducible refine Mine.const_S Mine.lit_30 ?_) | (with_reducible refine Mine.const_S Mine.lit_31 ?_) | (with_reducible refine Mine.const_S Mine.lit_32 ?_) | (with_reducible refine Mine.const_S Mine.lit_33 ?_) | (with_reducible refine Mine.const_S Mine.lit_34 ?_); intro _ _))
  (k_with "eval IfExp" => (k_here; first | (with_reducible refine Mine.ifexp_S Mine.lit_7 Mine.lit_12 (by decide) (by decide) ?_) | (with_reducible refine Mine.ifexp_S Mine.lit_9 Mine.lit_8 (by decide) (by decide) ?_)))
  (k_with "call builtin:len" => (k_here; (with_reducible show wpAny _ _ (call (Value.builtin "len") [Value.str (Mine.S _) _]) _ _ _); (refine Mine.len_S (by walk_at "OM") ?_); intro _ _))
  (k_with "truthy str" => (k_here; (with_reducible show wpAny _ _ (PySem.truthy (Value.str (Mine.S _) _)) _ _ _); (refine Mine.truthy_S (by walk_at "OM") ?_); intro _))
  (k_with "compareOp LtE str str" => (k_here; (with_reducible refine Mine.le_S ?_)))
  (k_with "compareOp Eq str str" => (k_here; (with_reducible refine Mine.eq_SS ?_)))
  (k_with "compareOp NotEq str str" => (k_here; (with_reducible refine Mine.ne_SS ?_)))
  (k_with "compareOp NotIn str str" => (k_here; (with_reducible refine Mine.notin_S ?_)))
  (k_with "binaryOp Add str str" => (k_here; (with_reducible show wpAny _ _ (binaryOp Operator.Add (Value.str (Mine.S _) _) (Value.str (Mine.S _) _)) _ _ _); (refine Mine.add_S (by walk_at "OM") ?_); intro _ _))
  (k_with "call builtin:str.find" => (k_here; (with_reducible refine Mine.find_SS ?_); intro _ _))
  (k_with "call builtin:str.startswith" => (k_here; (with_reducible refine Mine.starts_SS ?_)))
  (k_with "call builtin:str.endswith" => (k_here; (with_reducible refine Mine.ends_SS ?_)))
  (k_with "call builtin:str.strip" => (k_here; (with_reducible show wpAny _ _ (call (Value.builtin "str.strip") [Value.str (Mine.S _) _]) _ _ _); (refine Mine.strip_SS (by walk_at "OM") ?_); intro _ _))
  (k_with "subscriptTail Name Name str int" => (k_here; (with_reducible show wpAny _ _ (subscriptTail _ _ (Value.str (Mine.S _) _) (Value.int _ _)) _ _ _); (refine Mine.item_SS (by walk_at "OM") (by walk_at "OM") (by walk_at "OM") ?_); intro _ _))
  (k_with "subscriptTail Name Constant str int" => (k_here; (with_reducible show wpAny _ _ (subscriptTail _ _ (Value.str (Mine.S _) _) (Value.int _ _)) _ _ _); (refine Mine.item_SS (by walk_at "OM") (by walk_at "OM") (by walk_at "OM") ?_); intro _ _))
  (k_with "subscriptTail Name BinOp str int" => (k_here; (with_reducible show wpAny _ _ (subscriptTail _ _ (Value.str (Mine.S _) _) (Value.int _ _)) _ _ _); (refine Mine.item_SS (by walk_at "OM") (by walk_at "OM") (by walk_at "OM") ?_); intro _ _))
  (k_with "subscriptTail Name UnaryOp str int" => (k_here; (with_reducible show wpAny _ _ (subscriptTail _ _ (Value.str (Mine.S _) _) (Value.int (-1) _)) _ _ _); (refine Mine.item_SL ?_ (by walk_at "OM") ?_); rotate_left; intro _ _))
  (k_with "subscriptTail Name Name str int" => (k_here; (with_reducible show wpAny _ _ (subscriptTail _ _ (Value.str (Str.ofString _) _) (Value.int _ _)) _ _ _); (refine Mine.item_lit Mine.lit_34 (by (first | omega | exact fmod_lo _ (by decide) | exact fmod_hi _ (by decide) | fail "no bound")) (by (first | omega | exact fmod_lo _ (by decide) | exact fmod_hi _ (by decide) | fail "no bound")) (by decide) ?_); intro _ _))
  (k_with "subscriptTail Name Slice str ref" => (k_here; (with_reducible show wpAny _ _ (subscriptTail _ (Expr.Slice none (some _) none _) (Value.str (Mine.S _) _) _) _ _ _); (with_reducible rename Fr _ _ _ _ => wF); (with_reducible rename News _ _ _ _ => wN); (first | (refine Mine.slice_SS_to wF wN (by walk_at "OM") (by walk_at "OM") ?_) | (refine Mine.slice_SS_neg wF wN (by walk_at "OM") (by walk_at "OM") (by walk_at "OM") ?_)); intro _ _ _ _ _))
  (k_with "subscriptTail Name Slice str ref" => (k_here; (with_reducible show wpAny _ _ (subscriptTail _ (Expr.Slice (some _) none none _) (Value.str (Mine.S _) _) _) _ _ _); (with_reducible rename Fr _ _ _ _ => wF); (with_reducible rename News _ _ _ _ => wN); (refine Mine.slice_SS_from wF wN (by walk_at "OM") (by walk_at "OM") ?_); intro _ _ _ _ _))
  (k_with "subscriptTail Name Slice str ref" => (k_here; (with_reducible show wpAny _ _ (subscriptTail _ (Expr.Slice (some _) (some _) none _) (Value.str (Mine.S _) _) _) _ _ _); (with_reducible rename Fr _ _ _ _ => wF); (with_reducible rename News _ _ _ _ => wN); (refine Mine.slice_SS_mid wF wN (by walk_at "OM") (by walk_at "OM") (by walk_at "OM") (by walk_at "OM") ?_); intro _ _ _ _ _))
  (k_with "subscriptTail Name Slice str ref" => (k_here; (with_reducible show wpAny _ _ (subscriptTail _ (Expr.Slice none none (some _) _) (Value.str (Mine.S _) _) _) _ _ _); (with_reducible rename Fr _ _ _ _ => wF); (with_reducible rename News _ _ _ _ => wN); (refine Mine.slice_SS_rev wF wN (by walk_at "OM") ?_); intro _ _ _ _ _))
  (k_with "subscriptTail BinOp Slice str ref" => (k_here; (with_reducible show wpAny _ _ (subscriptTail _ (Expr.Slice none (some _) none _) (Value.str (Mine.S _) _) _) _ _ _); (with_reducible rename Fr _ _ _ _ => wF); (with_reducible rename News _ _ _ _ => wN); (first | (refine Mine.slice_SS_to wF wN (by walk_at "OM") (by walk_at "OM") ?_) | (refine Mine.slice_SS_neg wF wN (by walk_at "OM") (by walk_at "OM") (by walk_at "OM") ?_)); intro _ _ _ _ _))
  (k_with "subscriptTail BinOp Slice str ref" => (k_here; (with_reducible show wpAny _ _ (subscriptTail _ (Expr.Slice (some _) none none _) (Value.str (Mine.S _) _) _) _ _ _); (with_reducible rename Fr _ _ _ _ => wF); (with_reducible rename News _ _ _ _ => wN); (refine Mine.slice_SS_from wF wN (by walk_at "OM") (by walk_at "OM") ?_); intro _ _ _ _ _))
  (k_with "subscriptTail BinOp Slice str ref" => (k_here; (with_reducible show wpAny _ _ (subscriptTail _ (Expr.Slice (some _) (some _) none _) (Value.str (Mine.S _) _) _) _ _ _); (with_reducible rename Fr _ _ _ _ => wF); (with_reducible rename News _ _ _ _ => wN); (refine Mine.slice_SS_mid wF wN (by walk_at "OM") (by walk_at "OM") (by walk_at "OM") (by walk_at "OM") ?_); intro _ _ _ _ _))
  (k_with "subscriptTail BinOp Slice str ref" => (k_here; (with_reducible show wpAny _ _ (subscriptTail _ (Expr.Slice none none (some _) _) (Value.str (Mine.S _) _) _) _ _ _); (with_reducible rename Fr _ _ _ _ => wF); (with_reducible rename News _ _ _ _ => wN); (refine Mine.slice_SS_rev wF wN (by walk_at "OM") ?_); intro _ _ _ _ _))
  (k_with "pyIter ref" => ((with_reducible show wpAny _ _ (pyIter (Value.ref _)) (fun _ _ => LoopAtV _ _ _ _ _ _ _ _ _ _ _) _ _); refine Mine.Halt.go ?_))
  (k_with "pyIter str" => ((with_reducible show wpAny _ _ (pyIter (Value.str _ _)) (fun _ _ => LoopAtV _ _ _ _ _ _ _ _ _ _ _) _ _); refine Mine.Halt.go ?_))
  (k_with "exec For Name Name cons nil" => (k_here; (rename Fr _ _ _ _ => wlF); (with_unfolding_all refine For_invVF wlF (by exact rfl) (by exact rfl) ?_; k_whole)))
  (k_with "exec For Name Call cons nil" => (k_here; (rename Fr _ _ _ _ => wlF); (with_unfolding_all refine For_invVF wlF (by exact rfl) (by exact rfl) ?_; k_whole)))
  (k_with "exec For Name Subscript cons nil" => (k_here; (rename Fr _ _ _ _ => wlF); (with_unfolding_all refine For_invVF wlF (by exact rfl) (by exact rfl) ?_; k_whole)))
  (k_with "exec For Name Tuple cons nil" => (k_here; (rename Fr _ _ _ _ => wlF); (with_unfolding_all refine For_invVF wlF (by exact rfl) (by exact rfl) ?_; k_whole)))
  (k_with "KswEnd" => (refine Mine.Halt.go ?_))
  (k_with "ExitPost" => (refine Mine.Halt.go ?_))
  (k_with "LcEnd" => (refine Mine.Halt.go ?_))
  (k_with "LcBrk" => (refine Mine.Halt.go ?_))
  (k_with "LcPost" => (dsimp only [Mine.LcPost]))
  revert X
  k_fill
  intro X
  refine wpAny_call ?_
  k_dflt cell_enter
  rename_i g' L' h' FG' F' N' B' X' T'
  replace F' := fr_norm [(Str.ofString "size", .int (k : Nat) t'), (Str.ofString "number", .int n t)] F' rfl
  repeat' (first | (k_unfold; (try dsimp only)) | ((fail_if_success (with_reducible show Mine.Halt _)); k_end; wrow_close) | walk1 | (dsimp only; walk1) | (leave1; walk_say "STEP leave1"; try dsimp only) | fail "no step")
  rename_i hR hF hN hKeep
  refine Halt.out ?_
  refine' range_cut (σ := Int × Tok × List Nat × Tok) (fun _ => news) (fun c => [(Str.ofString "number", .int c.1 c.2.1), (Str.ofString "spelt", .str (S c.2.2.1) c.2.2.2)]) [Str.ofString "place"] (fun i c => c.1 = spellRest n i ∧ c.2.2.1 = spell n i) (fun _ => False) (n, t, [], _) rfl hR ?small ?size hF hN ?kk ?start ?turn ?brk ?done
  case small => exact small_one (by omega) (by omega) (by omega) (by omega)
  case size => exact rangeSize_nat _ _
  case kk => kst_all
  case start => exact ⟨by simp [spellRest], rfl⟩
  case brk => intro c u h tk hf; exact hf.elim
  case turn =>
    clear hR hF hN hKeep
    rintro i ti ⟨a, ta, z, tz⟩ u h tk own I hi ⟨hj1, hj2⟩ hoff F' N'
    dsimp only at hj1 hj2 F' N' ⊢
    have hz : z.length = i := by rw [hj2, spell_length]
    try k_fold
    repeat' (first | (k_unfold; (try dsimp only)) | ((fail_if_success (with_reducible show Mine.Halt _)); k_end; wrow_close) | walk1 | (dsimp only; walk1) | (leave1; walk_say "STEP leave1"; try dsimp only) | fail "no step")
    all_goals (
      refine Halt.out (lc_end (a.fdiv 26, _, z ++ [letters.getD (a.fmod 26).toNat 0], _) (by assumption) (by assumption) (by intro p hp; (try simp only [List.mem_append, List.mem_cons, List.not_mem_nil, or_false, or_assoc] at hp); first | (simp [hp]; done) | (with_reducible refine Or.elim hp (fun hp => ?_) (fun hp => ?_) <;> (first | (simp [hp]; done) | (with_reducible refine Or.elim hp (fun hp => ?_) (fun hp => ?_) <;> (first | (simp [hp]; done) | (with_reducible refine Or.elim hp (fun hp => ?_) (fun hp => ?_) <;> (first | (simp [hp]; done) | (with_reducible refine Or.elim hp (fun hp => ?_) (fun hp => ?_) <;> ((simp [hp]; done)))))))))) (by intro p hp; (try simp only [List.mem_append, List.mem_cons, List.not_mem_nil, or_false, or_assoc] at hp); first | (simp [hp]; done) | (with_reducible refine Or.elim hp (fun hp => ?_) (fun hp => ?_) <;> (first | (simp [hp]; done) | (with_reducible refine Or.elim hp (fun hp => ?_) (fun hp => ?_) <;> (first | (simp [hp]; done) | (with_reducible refine Or.elim hp (fun hp => ?_) (fun hp => ?_) <;> (first | (simp [hp]; done) | (with_reducible refine Or.elim hp (fun hp => ?_) (fun hp => ?_) <;> ((simp [hp]; done)))))))))) (fun p hp hm => hoff p hp (List.mem_singleton.mp hm)) (by kst_all) (by first | (intro z h1 h2 h3; (try dsimp only [kstB]); (repeat (refine Eq.trans (if_neg (by (first | exact h1 | exact Mine.off_stored h3 (by decide +kernel) | ((fail_if_success (exact Mine.not_stored h3)); exact Mine.sub_stored h3 (by decide +kernel)) | exact h2 _ (.head _) | exact h2 _ (.tail _ (.head _)) | exact h2 _ (.tail _ (.tail _ (.head _))) | exact h2 _ (.tail _ (.tail _ (.tail _ (.head _))))))) ?_)); first | exact if_neg (Mine.not_stored h3) | exact rfl) | (intro z h1 h2 h3; (try simp only [List.forall_mem_cons, List.not_mem_nil, false_implies, implies_true, and_true, ne_eq] at h2); (try simp only [List.contains_cons, List.contains_nil, Bool.or_false, Bool.or_eq_false_iff, beq_eq_false_iff_ne, ne_eq] at h3); simp [kstB, h1, h2, h3])) ⟨?_, ?_⟩)
      · dsimp only
        rw [Int.fdiv_eq_ediv_of_nonneg _ (by decide), hj1, spellRest_succ]
      · dsimp only
        rw [Int.fmod_eq_emod_of_nonneg _ (by decide), hj1, hj2, spell_succ])
  case done =>
    clear hR hF hN hKeep
    have hk0 : ((k : Int) - 0).toNat = k := by omega
    rintro ⟨a, ta, z, tz⟩ u h tk ⟨hj1, hj2⟩ F' N'
    dsimp only at hj1 hj2 F' N' ⊢
    rw [hk0] at hj1 hj2
    subst hj1 hj2
    repeat' (first | (k_unfold; (try dsimp only)) | ((fail_if_success (with_reducible show Mine.Halt _)); k_end; wrow_close) | walk1 | (dsimp only; walk1) | (leave1; walk_say "STEP leave1"; try dsimp only) | fail "no step")
    exact hret _ _ _ _ _ (by assumption) (by assumption) (by assumption)
end Mine

end
section
namespace Mine
noncomputable def IntIs (z : Int) (s : Shared) (v : Value) (s' : Shared) : Prop := ∃ t tk, v = .int z t ∧ s' = { s with toks := tk }
theorem cut_int {M : Model} {A : Around} {E : Value → Shared → Prop} {Q : Value → Shared → Prop} {env : Env} {e : PySem.Expr} {s : Shared} (z : Int) (h1 : wpAny M A (eval e env) (IntIs z s) E s) (h2 : ∀ t tk, Q (.int z t) { s with toks := tk }) : wpAny M A (eval e env) Q E s :=
  wpAny_mono h1 (fun v s' ⟨t, tk, e1, e2⟩ => e1 ▸ e2 ▸ h2 t tk) fun _ _ x => x
noncomputable def pick {r1 x r4 r3 z : Int} (_ : r1 = x % 4) (_ : r4 = r3 % z) : Int := if r1 < 2 then r4 + 1 else 3
theorem pick_eq {r1 x r4 r3 z : Int} (h1 : r1 = x % 4) (h2 : r4 = r3 % z) : pick h1 h2 = if r1 < 2 then r4 + 1 else 3 := rfl
theorem int_is {s : Shared} {a z : Int} {t : Tok} {tk : Nat} (e : a = z) : IntIs z s (.int a t) { s with toks := tk } := e ▸ ⟨t, tk, rfl, rfl⟩
section
variable {prog : Program} {w : World} {A : Around} {E : Value → Shared → Prop} {hp : Heap} {gg : Array GenState} {dr : Drawn} {tk : Nat} {oo : OsState} {Q : Value → Shared → Prop} {a b : Int} {t u : Tok} {h₀ : Heap} {L : Addr} {m : Str → Option Value} {news : List (Addr × Obj)}
theorem divmod_S (F : Fr h₀ L hp m) (N : News h₀ L hp news) (ha : 0 ≤ a) (hb : 0 < b) (hb2 : b ≤ 1000)
    (h : ∀ q r d t1 t2 h' k, q = a / b → r = a % b → 0 ≤ q → 0 ≤ r → r < b → (∀ p ∈ news, p.1 < d) → Fr h₀ L h' m → News h₀ L h' ((d, { cls := .type "tuple", data := .seq [.int q t1, .int r t2].toArray }) :: news) → Q (.ref d) ⟨h', gg, dr, k, oo⟩) :
    wpAny (model prog w) A (call (.builtin "divmod") [.int a t, .int b u]) Q E ⟨hp, gg, dr, tk, oo⟩ := by
  refine divmod_N (s := ⟨hp, gg, dr, tk, oo⟩) F N (by omega) (fun h' F' N' => ?_) (Or.inl (PyProof.noPylong_small (by omega)))
  rw [Int.fdiv_eq_ediv_of_nonneg _ (by omega), Int.fmod_eq_emod_of_nonneg _ (by omega)] at N'
  exact h (a / b) (a % b) _ _ _ h' _ rfl rfl (Int.ediv_nonneg ha (by omega)) (Int.emod_nonneg _ (by omega)) (Int.emod_lt_of_pos _ hb) (fun p hp => Heap.lt_size (N p hp).1) F' N'
theorem abs_S (h : ∀ x t k, x = (a.natAbs : Int) → 0 ≤ x → Q (.int x t) ⟨hp, gg, dr, k, oo⟩) : wpAny (model prog w) A (call (.builtin "abs") [.int a t]) Q E ⟨hp, gg, dr, tk, oo⟩ := by
  refine call_abs_int fun u tk => ?_
  have e : (if a < 0 then -a else a) = (a.natAbs : Int) := by split <;> omega
  rw [e]
  exact h _ u tk rfl (by omega)
end
theorem la1 {z : Nat} {r : Int} (h : (z : Int) = r + 1) (h3 : r < 3) : z ≤ 16777216 := by omega
theorem la2 {z : Nat} {r : Int} (h : (z : Int) = r + 1) (h0 : 0 ≤ r) : 0 < (z : Int) := by omega
theorem la3 {z : Nat} {r : Int} (h : (z : Int) = r + 1) (h3 : r < 3) : (z : Int) ≤ 1000 := by omega
theorem la5 {r : Int} (h3 : r < 3) : r + 1 ≤ 1000 := by omega
theorem la6 {z : Nat} {r g : Int} (h0 : 0 ≤ g) (h1 : g < (z : Int)) (h2 : (z : Int) = r + 1) (h3 : r < 3) : 0 < g + 1 ∧ g + 1 ≤ 1000 := by omega
theorem news_head {h₀ h : Heap} {L : Addr} {a : Addr} {o o' : Obj} {news rest : List (Addr × Obj)} (N : News h₀ L h ((a, o) :: rest)) (e : o = o') (hs : ∀ p ∈ news, p ∈ rest) : News h₀ L h ((a, o') :: news) := by
  subst e
  intro p hp
  rcases List.mem_cons.mp hp with rfl | hp
  · exact N _ (.head _)
  · exact N _ (.tail _ (hs p hp))
/-- _law_order: a rule out of a number -/
noncomputable def order (n : Int) : Rule :=
  let a : Int := n.natAbs
  let e := spell (a / 4 / 3) (a / 4 % 3 + 1).toNat
  let n3 := spellRest (a / 4 / 3) (a / 4 % 3 + 1).toNat
  let gone := n3 % (e.length : Int) + 1
  let d := if a % 4 < 2 then gone else 3
  ⟨e, decide (a % 4 % 2 = 1), gone.toNat, spell (n3 / (e.length : Int) / d) (n3 / (e.length : Int) % d).toNat, decide (a % 4 < 2)⟩
theorem order_of {n x q1 r1 q2 r2 r3 q4 r4 q5 r5 d : Int} {z1 z2 : List Nat} {t1 t2 t3 : Tok} (hz1 : z1 = spell q2 (r2 + 1).toNat) (h2' : r2 = q1 % 3) (h2 : q2 = q1 / 3) (h1 : q1 = x / 4) (h1' : r1 = x % 4) (hx : x = (n.natAbs : Int)) (h3 : r3 = spellRest q2 (r2 + 1).toNat)
    (h4' : r4 = r3 % (z1.length : Int)) (h4 : q4 = r3 / (z1.length : Int)) (hz2 : z2 = spell q5 r5.toNat) (h5 : q5 = q4 / d) (h5' : r5 = q4 % d) (hd : d = if r1 < 2 then r4 + 1 else 3) (h1n : 0 ≤ r1) (h4n : 0 ≤ r4) :
    ({ cls := .type "tuple", data := .seq #[.str (S z1) t1, .bool (r1.fmod 2 == 1), .int (r4 + 1) t2, .str (S z2) t3, .bool (decide (r1 < 2))] } : Obj) = tupObj (order n) t1 t2 t3 := by
  have e : order n = ⟨z1, decide (r1 % 2 = 1), (r4 + 1).toNat, z2, decide (r1 < 2)⟩ := by
    subst hd hx h1 h1' h2 h2' hz1 h3 h4 h4' h5 h5' hz2
    rfl
  rw [tupObj, e]
  dsimp only
  rw [Int.fmod_eq_emod_of_nonneg _ (by decide), Int.toNat_of_nonneg (by omega)]
  congr 1
theorem c_law_spell2 {w : World} {mean : ExcName → Option Value} {mg mb : Str → Option Value} {dp un : Nat} {gd : Option (List Code)} {cn : Str} {cs : Scope} {a : Addr} {ccd : Value} {cl : List (Str × Addr)} {outer : List Env} {A₀ : Around} {base h₀ : Heap} {L : Addr} {m : Str → Option Value} {news : List (Addr × Obj)} {s : Shared} {Q E : Value → Shared → Prop}
    {n i : Int} {t t' : Tok}
    (B : Below A₀ base outer h₀) (F : Fr h₀ L s.heap m) (X : (hd.heap_39 w.params).In h₀) (N : News h₀ L s.heap news) (T : Top hd.view_39 (looseW hd.view_39 [Str.ofString "_law_starts"]) mean mg mb h₀) (hk : cs.kind = .function)
    (hdp : dp + 3 < recursionLimit) (hun : un + 30 < cLine)
    (hn : 0 ≤ n) (hi0 : 0 ≤ i) (hi1 : i ≤ 1000)
    (hret : ∀ z r q t1 t2 h' tk', z = spell n i.toNat → r = spellRest n i.toNat → (z.length : Int) = i → 0 ≤ r → Fr h₀ L h' m → News h₀ L h' ((q, { cls := .type "tuple", data := .seq [.int r t1, .str (S z) t2].toArray }) :: news) → (∀ p ∈ news, p.1 < q) → Q (.ref q) { s with heap := h', toks := tk' }) :
    wpAny (model PySem.Challenge.rw_iv0074_01.row.prog w) (ktrTop dp un gd cn cs L a ccd cl outer) (call (.ref 90) [.int n t, .int i t']) Q E s := by
  obtain ⟨k, rfl⟩ := Int.eq_ofNat_of_zero_le hi0
  refine c_law_spell B F X N T hk hdp hun hn (by omega) ?_
  intro q t1 t2 h' tk' F' N' l1
  rw [Int.toNat_natCast] at hret
  exact hret _ _ q t1 t2 h' tk' rfl rfl (by rw [spell_length]) (spellRest_nn hn _) F' N' l1
end Mine


namespace Mine
theorem c_law_order {w : World} {mean : ExcName → Option Value} {mg mb : Str → Option Value} {dp un : Nat} {gd : Option (List Code)} {cn : Str} {cs : Scope} {a : Addr} {ccd : Value} {cl : List (Str × Addr)} {outer : List Env} {A₀ : Around} {base h₀ : Heap} {L : Addr} {m : Str → Option Value} {news : List (Addr × Obj)} {s : Shared} {Q E : Value → Shared → Prop}
    {n : Int} {t : Tok}
    (B : Below A₀ base outer h₀) (F : Fr h₀ L s.heap m) (X : (hd.heap_39 w.params).In h₀) (N : News h₀ L s.heap news) (T : Top hd.view_39 (looseW hd.view_39 [Str.ofString "_law_starts"]) mean mg mb h₀) (hk : cs.kind = .function)
    (hdp : dp + 6 < recursionLimit) (hun : un + 60 < cLine)
    
    (hret : ∀ q t1 t2 t3 h' tk', Fr h₀ L h' m → News h₀ L h' ((q, tupObj (order n) t1 t2 t3) :: news) → (∀ p ∈ news, p.1 < q) → Q (.ref q) { s with heap := h', toks := tk' }) :
    wpAny (model PySem.Challenge.rw_iv0074_01.row.prog w) (ktrTop dp un gd cn cs L a ccd cl outer) (call (.ref 97) [.int n t]) Q E s := by
  w_top off
  k_with_none
  (k_with "eval Constant str" => (k_here; first | (with_reducible refine Mine.const_S Mine.lit_0 ?_) | (with_reducible refine Mine.const_S Mine.lit_1 ?_) | (with_reducible refine Mine.const_S Mine.lit_2 ?_) | (with_reducible refine Mine.const_S Mine.lit_3 ?_) | (with_reducible refine Mine.const_S Mine.lit_4 ?_) | (with_reducible refine Mine.const_S Mine.lit_5 ?_) | (with_reducible refine Mine.const_S Mine.lit_6 ?_) | (with_reducible refine Mine.const_S Mine.lit_7 ?_) | (with_reducible refine Mine.const_S Mine.lit_8 ?_) | (with_reducible refine Mine.const_S Mine.lit_9 ?_) | (with_reducible refine Mine.const_S Mine.lit_10 ?_) | (with_reducible refine Mine.const_S Mine.lit_11 ?_) | (with_reducible refine Mine.const_S Mine.lit_12 ?_) | (with_reducible refine Mine.const_S Mine.lit_13 ?_) | (with_reducible refine Mine.const_S Mine.lit_14 ?_) | (with_reducible refine Mine.const_S Mine.lit_15 ?_) | (with_reducible refine Mine.const_S Mine.lit_16 ?_) | (with_reducible refine Mine.const_S Mine.lit_17 ?_) | (with_reducible refine Mine.const_S Mine.lit_18 ?_) | (with_reducible refine Mine.const_S Mine.lit_19 ?_) | (with_reducible refine Mine.const_S Mine.lit_20 ?_) | (with_reducible refine Mine.const_S Mine.lit_21 ?_) | (with_reducible refine Mine.const_S Mine.lit_22 ?_) | (with_reducible refine Mine.const_S Mine.lit_23 ?_) | (with_reducible refine Mine.const_S Mine.lit_24 ?_) | (with_reducible refine Mine.const_S Mine.lit_25 ?_) | (with_reducible refine Mine.const_S Mine.lit_26 ?_) | (with_reducible refine Mine.const_S Mine.lit_27 ?_) | (with_reducible refine Mine.const_S Mine.lit_28 ?_) | (with_reducible refine Mine.const_S Mine.lit_29 ?_) | (with_reducible refine Mine.const_S Mine.lit_30 ?_) | (with_reducible refine Mine.const_S Mine.lit_31 ?_) | (with_reducible refine Mine.const_S Mine.lit_32 ?_) | (with_reducible refine Mine.const_S Mine.lit_33 ?_) | (with_reducible refine Mine.const_S Mine.lit_34 ?_); intro _ _))
  (k_with "eval IfExp" => (k_here; first | (with_reducible refine Mine.ifexp_S Mine.lit_7 Mine.lit_12 (by decide) (by decide) ?_) | (with_reducible refine Mine.ifexp_S Mine.lit_9 Mine.lit_8 (by decide) (by decide) ?_)))
  (k_with "call builtin:len" => (k_here; (with_reducible show wpAny _ _ (call (Value.builtin "len") [Value.str (Mine.S _) _]) _ _ _); (refine Mine.len_S (by walk_at "OM") ?_); intro _ _))
  (k_with "truthy str" => (k_here; (with_reducible show wpAny _ _ (PySem.truthy (Value.str (Mine.S _) _)) _ _ _); (refine Mine.truthy_S (by walk_at "OM") ?_); intro _))
  (k_with "compareOp LtE str str" => (k_here; (with_reducible refine Mine.le_S ?_)))
  (k_with "compareOp Eq str str" => (k_here; (with_reducible refine Mine.eq_SS ?_)))
  (k_with "compareOp NotEq str str" => (k_here; (with_reducible refine Mine.ne_SS ?_)))
  (k_with "compareOp NotIn str str" => (k_here; (with_reducible refine Mine.notin_S ?_)))
  (k_with "binaryOp Add str str" => (k_here; (with_reducible show wpAny _ _ (binaryOp Operator.Add (Value.str (Mine.S _) _) (Value.str (Mine.S _) _)) _ _ _); (refine Mine.add_S (by walk_at "OM") ?_); intro _ _))
  (k_with "call builtin:str.find" => (k_here; (with_reducible refine Mine.find_SS ?_); intro _ _))
  (k_with "call builtin:str.startswith" => (k_here; (with_reducible refine Mine.starts_SS ?_)))
  (k_with "call builtin:str.endswith" => (k_here; (with_reducible refine Mine.ends_SS ?_)))
  (k_with "call builtin:str.strip" => (k_here; (with_reducible show wpAny _ _ (call (Value.builtin "str.strip") [Value.str (Mine.S _) _]) _ _ _); (refine Mine.strip_SS (by walk_at "OM") ?_); intro _ _))
  (k_with "subscriptTail Name Name str int" => (k_here; (with_reducible show wpAny _ _ (subscriptTail _ _ (Value.str (Mine.S _) _) (Value.int _ _)) _ _ _); (refine Mine.item_SS (by walk_at "OM") (by walk_at "OM") (by walk_at "OM") ?_); intro _ _))
  (k_with "subscriptTail Name Constant str int" => (k_here; (with_reducible show wpAny _ _ (subscriptTail _ _ (Value.str (Mine.S _) _) (Value.int _ _)) _ _ _); (refine Mine.item_SS (by walk_at "OM") (by walk_at "OM") (by walk_at "OM") ?_); intro _ _))
  (k_with "subscriptTail Name BinOp str int" => (k_here; (with_reducible show wpAny _ _ (subscriptTail _ _ (Value.str (Mine.S _) _) (Value.int _ _)) _ _ _); (refine Mine.item_SS (by walk_at "OM") (by walk_at "OM") (by walk_at "OM") ?_); intro _ _))
  (k_with "subscriptTail Name UnaryOp str int" => (k_here; (with_reducible show wpAny _ _ (subscriptTail _ _ (Value.str (Mine.S _) _) (Value.int (-1) _)) _ _ _); (refine Mine.item_SL ?_ (by walk_at "OM") ?_); rotate_left; intro _ _))
  (k_with "subscriptTail Name Name str int" => (k_here; (with_reducible show wpAny _ _ (subscriptTail _ _ (Value.str (Str.ofString _) _) (Value.int _ _)) _ _ _); (refine Mine.item_lit Mine.lit_34 (by (first | omega | exact fmod_lo _ (by decide) | exact fmod_hi _ (by decide) | fail "no bound")) (by (first | omega | exact fmod_lo _ (by decide) | exact fmod_hi _ (by decide) | fail "no bound")) (by decide) ?_); intro _ _))
  (k_with "subscriptTail Name Slice str ref" => (k_here; (with_reducible show wpAny _ _ (subscriptTail _ (Expr.Slice none (some _) none _) (Value.str (Mine.S _) _) _) _ _ _); (with_reducible rename Fr _ _ _ _ => wF); (with_reducible rename News _ _ _ _ => wN); (first | (refine Mine.slice_SS_to wF wN (by walk_at "OM") (by walk_at "OM") ?_) | (refine Mine.slice_SS_neg wF wN (by walk_at "OM") (by walk_at "OM") (by walk_at "OM") ?_)); intro _ _ _ _ _))
  (k_with "subscriptTail Name Slice str ref" => (k_here; (with_reducible show wpAny _ _ (subscriptTail _ (Expr.Slice (some _) none none _) (Value.str (Mine.S _) _) _) _ _ _); (with_reducible rename Fr _ _ _ _ => wF); (with_reducible rename News _ _ _ _ => wN); (refine Mine.slice_SS_from wF wN (by walk_at "OM") (by walk_at "OM") ?_); intro _ _ _ _ _))
  (k_with "subscriptTail Name Slice str ref" => (k_here; (with_reducible show wpAny _ _ (subscriptTail _ (Expr.Slice (some _) (some _) none _) (Value.str (Mine.S _) _) _) _ _ _); (with_reducible rename Fr _ _ _ _ => wF); (with_reducible rename News _ _ _ _ => wN); (refine Mine.slice_SS_mid wF wN (by walk_at "OM") (by walk_at "OM") (by walk_at "OM") (by walk_at "OM") ?_); intro _ _ _ _ _))
  (k_with "subscriptTail Name Slice str ref" => (k_here; (with_reducible show wpAny _ _ (subscriptTail _ (Expr.Slice none none (some _) _) (Value.str (Mine.S _) _) _) _ _ _); (with_reducible rename Fr _ _ _ _ => wF); (with_reducible rename News _ _ _ _ => wN); (refine Mine.slice_SS_rev wF wN (by walk_at "OM") ?_); intro _ _ _ _ _))
  (k_with "subscriptTail BinOp Slice str ref" => (k_here; (with_reducible show wpAny _ _ (subscriptTail _ (Expr.Slice none (some _) none _) (Value.str (Mine.S _) _) _) _ _ _); (with_reducible rename Fr _ _ _ _ => wF); (with_reducible rename News _ _ _ _ => wN); (first | (refine Mine.slice_SS_to wF wN (by walk_at "OM") (by walk_at "OM") ?_) | (refine Mine.slice_SS_neg wF wN (by walk_at "OM") (by walk_at "OM") (by walk_at "OM") ?_)); intro _ _ _ _ _))
  (k_with "subscriptTail BinOp Slice str ref" => (k_here; (with_reducible show wpAny _ _ (subscriptTail _ (Expr.Slice (some _) none none _) (Value.str (Mine.S _) _) _) _ _ _); (with_reducible rename Fr _ _ _ _ => wF); (with_reducible rename News _ _ _ _ => wN); (refine Mine.slice_SS_from wF wN (by walk_at "OM") (by walk_at "OM") ?_); intro _ _ _ _ _))
  (k_with "subscriptTail BinOp Slice str ref" => (k_here; (with_reducible show wpAny _ _ (subscriptTail _ (Expr.Slice (some _) (some _) none _) (Value.str (Mine.S _) _) _) _ _ _); (with_reducible rename Fr _ _ _ _ => wF); (with_reducible rename News _ _ _ _ => wN); (refine Mine.slice_SS_mid wF wN (by walk_at "OM") (by walk_at "OM") (by walk_at "OM") (by walk_at "OM") ?_); intro _ _ _ _ _))
  (k_with "subscriptTail BinOp Slice str ref" => (k_here; (with_reducible show wpAny _ _ (subscriptTail _ (Expr.Slice none none (some _) _) (Value.str (Mine.S _) _) _) _ _ _); (with_reducible rename Fr _ _ _ _ => wF); (with_reducible rename News _ _ _ _ => wN); (refine Mine.slice_SS_rev wF wN (by walk_at "OM") ?_); intro _ _ _ _ _))
  (k_with "pyIter ref" => ((with_reducible show wpAny _ _ (pyIter (Value.ref _)) (fun _ _ => LoopAtV _ _ _ _ _ _ _ _ _ _ _) _ _); refine Mine.Halt.go ?_))
  (k_with "pyIter str" => ((with_reducible show wpAny _ _ (pyIter (Value.str _ _)) (fun _ _ => LoopAtV _ _ _ _ _ _ _ _ _ _ _) _ _); refine Mine.Halt.go ?_))
  (k_with "exec For Name Name cons nil" => (k_here; (rename Fr _ _ _ _ => wlF); (with_unfolding_all refine For_invVF wlF (by exact rfl) (by exact rfl) ?_; k_whole)))
  (k_with "exec For Name Call cons nil" => (k_here; (rename Fr _ _ _ _ => wlF); (with_unfolding_all refine For_invVF wlF (by exact rfl) (by exact rfl) ?_; k_whole)))
  (k_with "exec For Name Subscript cons nil" => (k_here; (rename Fr _ _ _ _ => wlF); (with_unfolding_all refine For_invVF wlF (by exact rfl) (by exact rfl) ?_; k_whole)))
  (k_with "exec For Name Tuple cons nil" => (k_here; (rename Fr _ _ _ _ => wlF); (with_unfolding_all refine For_invVF wlF (by exact rfl) (by exact rfl) ?_; k_whole)))
  (k_with "KswEnd" => (refine Mine.Halt.go ?_))
  (k_with "ExitPost" => (refine Mine.Halt.go ?_))
  (k_with "LcEnd" => (refine Mine.Halt.go ?_))
  (k_with "LcBrk" => (refine Mine.Halt.go ?_))
  (k_with "LcPost" => (dsimp only [Mine.LcPost]))
  (k_with "call builtin:divmod" => (k_here; (with_reducible show wpAny _ _ (call (Value.builtin _) [Value.int _ _, Value.int _ _]) _ _ _); (refine Mine.divmod_S (by k_asm) (by k_asm) (by (first | decide | assumption | exact Int.le_add_one (by assumption) | exact Mine.la5 (by assumption) | exact Mine.la2 (by assumption) (by assumption) | exact Mine.la3 (by assumption) (by assumption) | exact Int.le_of_lt (Int.lt_of_lt_of_le (by assumption) (by assumption)) | walk_at "OM")) (by (first | decide | assumption | exact Int.le_add_one (by assumption) | exact Mine.la5 (by assumption) | exact Mine.la2 (by assumption) (by assumption) | exact Mine.la3 (by assumption) (by assumption) | exact Int.le_of_lt (Int.lt_of_lt_of_le (by assumption) (by assumption)) | walk_at "OM")) (by (first | decide | assumption | exact Int.le_add_one (by assumption) | exact Mine.la5 (by assumption) | exact Mine.la2 (by assumption) (by assumption) | exact Mine.la3 (by assumption) (by assumption) | exact Int.le_of_lt (Int.lt_of_lt_of_le (by assumption) (by assumption)) | walk_at "OM")) ?_); intro _ _ _ _ _ _ _ _ _ _ _ _ _ _ _; (try k_sweep)))
  (k_with "call builtin:abs" => ((with_reducible refine Mine.abs_S ?_); intro _ _ _ _ _))
  (k_with "eval IfExp" => ((fail_if_success (with_reducible show wpAny _ _ (eval _ _) (Mine.IntIs _ _) _ _)); refine Mine.Halt.go ?_))
  (k_with "IntIs" => (refine Mine.Halt.go ?_))
  (k_with "call builtin:len" => (k_here; (with_reducible show wpAny _ _ (call (Value.builtin "len") [Value.str (Mine.S _) _]) _ _ _); (refine Mine.len_S (Mine.la1 (by assumption) (by assumption)) ?_); intro _ _))
  (k_with "call ref" => (k_here; (with_reducible show wpAny _ _ (call (Value.ref 90) [Value.int _ _, Value.int _ _]) _ _ _); k_dflt (first | (refine Mine.c_law_spell2  (by k_asm) (by k_asm) (by k_asm) (by k_asm) (by k_asm) (by first | exact rfl | assumption) (by ktr_room) (by ktr_units) (by (first | decide | assumption | exact Int.le_add_one (by assumption) | exact Mine.la5 (by assumption) | exact Mine.la2 (by assumption) (by assumption) | exact Mine.la3 (by assumption) (by assumption) | exact Int.le_of_lt (Int.lt_of_lt_of_le (by assumption) (by assumption)) | walk_at "OM")) (by (first | decide | assumption | exact Int.le_add_one (by assumption) | exact Mine.la5 (by assumption) | exact Mine.la2 (by assumption) (by assumption) | exact Mine.la3 (by assumption) (by assumption) | exact Int.le_of_lt (Int.lt_of_lt_of_le (by assumption) (by assumption)) | walk_at "OM")) (by (first | decide | assumption | exact Int.le_add_one (by assumption) | exact Mine.la5 (by assumption) | exact Mine.la2 (by assumption) (by assumption) | exact Mine.la3 (by assumption) (by assumption) | exact Int.le_of_lt (Int.lt_of_lt_of_le (by assumption) (by assumption)) | walk_at "OM")) ?_; k_whole; intro _ _ _ _ _ _ _ _ _ _ _ _ _ _; (try dsimp only); (try k_sweep); (try k_fold)))))
  revert X
  k_fill
  intro X
  refine wpAny_call ?_
  k_dflt cell_enter
  rename_i g' L' h' FG' F' N' B' X' T'
  replace F' := fr_norm [(Str.ofString "number", .int n t)] F' rfl
  repeat' (first | (k_unfold; (try dsimp only)) | ((fail_if_success (with_reducible show Mine.Halt _)); k_end; wrow_close) | walk1 | (dsimp only; walk1) | (leave1; walk_say "STEP leave1"; try dsimp only) | fail "no step")
  refine Halt.out ?_
  (with_reducible rename (_ = _ % 4) => hr1)
  (with_reducible rename (_ = _ % ((List.length _ : Nat) : Int)) => hr4)
  refine cut_int (pick hr1 hr4) ?_ ?_
  · repeat' (first | (k_unfold; (try dsimp only)) | ((fail_if_success (with_reducible show Mine.Halt _)); k_end; wrow_close) | walk1 | (dsimp only; walk1) | (leave1; walk_say "STEP leave1"; try dsimp only) | fail "no step")
    all_goals (
      refine Halt.out (int_is ?_)
      rw [pick_eq hr1 hr4]
      first
      | (rw [if_pos (by assumption)])
      | (rw [if_neg (by assumption)]))
  intro tz kz
  (try dsimp only)
  have hz1 := pick_eq hr1 hr4
  generalize pick hr1 hr4 = zz at *
  obtain ⟨hz2, hz3⟩ : 0 < zz ∧ zz ≤ 1000 := by
    rw [hz1]
    split
    · exact la6 (by assumption) (by assumption) (by assumption) (by assumption)
    · exact ⟨by decide, by decide⟩
  repeat' (first | (k_unfold; (try dsimp only)) | ((fail_if_success (with_reducible show Mine.Halt _)); k_end; wrow_close) | walk1 | (dsimp only; walk1) | (leave1; walk_say "STEP leave1"; try dsimp only) | fail "no step")
  refine hret _ _ _ _ _ _ (by assumption) (news_head (by assumption) (order_of (by assumption) (by assumption) (by assumption) (by assumption) (by assumption) (by assumption) (by assumption) (by assumption) (by assumption) (by assumption) (by assumption) (by assumption) hz1 (by assumption) (by assumption)) (by intro p hp; (try simp only [List.mem_append, List.mem_cons, List.not_mem_nil, or_false, or_assoc] at hp); first | (simp [hp]; done) | (with_reducible refine Or.elim hp (fun hp => ?_) (fun hp => ?_) <;> (first | (simp [hp]; done) | (with_reducible refine Or.elim hp (fun hp => ?_) (fun hp => ?_) <;> (first | (simp [hp]; done) | (with_reducible refine Or.elim hp (fun hp => ?_) (fun hp => ?_) <;> (first | (simp [hp]; done) | (with_reducible refine Or.elim hp (fun hp => ?_) (fun hp => ?_) <;> ((simp [hp]; done))))))))))) (by first | assumption | (rename _ ∧ _ => l1; first | exact kst_ltOf l1.2 | exact kst_ltOf l1.2.2 | exact kst_ltOf l1.2.2.2 | exact kst_ltOf l1.2.2.2.2 | exact kst_ltOf l1.2.2.2.2.2 | exact kst_ltOf l1.2.2.2.2.2.2 | exact kst_ltOf l1.2.2.2.2.2.2.2 | exact kst_ltOf l1.2.2.2.2.2.2.2.2 | exact kst_ltOf l1.2.2.2.2.2.2.2.2.2 | exact kst_ltOf l1.2.2.2.2.2.2.2.2.2.2 | exact kst_ltOf l1.2.2.2.2.2.2.2.2.2.2.2))
end Mine

end
section
namespace Mine
theorem str_digit {prog : Program} {w : World} {A : Around} {E : Value → Shared → Prop} {hp : Heap} {gg : Array GenState} {dr : Drawn} {tk : Nat} {oo : OsState} {Q : Value → Shared → Prop} {g : Nat} {t : Tok} (h1 : 1 ≤ g) (h3 : g ≤ 3) (h : ∀ t k, Q (.str (S [48 + g]) t) ⟨hp, gg, dr, k, oo⟩) :
    wpAny (model prog w) A (call (.type "str") [.int (g : Nat) t]) Q E ⟨hp, gg, dr, tk, oo⟩ := by
  have hg : g = 1 ∨ g = 2 ∨ g = 3 := by omega
  have e : ∀ n, n = 1 ∨ n = 2 ∨ n = 3 → Str.ofString (toString ((n : Nat) : Int)) = S [48 + n] := by
    rintro n (rfl | rfl | rfl) <;> decide +kernel
  refine P.str_of_int (shown (N := 2 ^ 1920) (by omega) (by omega) (Int.le_refl _)) ?_
  rw [e g hg]
  exact h _ _
noncomputable def ruleText (r : Rule) : List Nat := r.ending.reverse ++ (if r.whole then [42] else []) ++ [48 + r.gone] ++ r.given ++ (if r.onward then [62] else [46])
/-- _law_written: a rule as a table's row -/
noncomputable def written (r : Rule) (d : Int) : List Nat :=
  if d = 1 then [32, 32, 32] ++ ruleText r ++ [32, 32, 32, 32, 123, 32, 45] ++ r.ending ++ [32, 62, 32, 45] ++ r.given ++ [32, 125]
  else if d = 2 then ruleText r ++ [10, 32, 32] else ruleText r
end Mine


namespace Mine
theorem c_law_written {w : World} {mean : ExcName → Option Value} {mg mb : Str → Option Value} {dp un : Nat} {gd : Option (List Code)} {cn : Str} {cs : Scope} {a : Addr} {ccd : Value} {cl : List (Str × Addr)} {outer : List Env} {A₀ : Around} {base h₀ : Heap} {L : Addr} {m : Str → Option Value} {news : List (Addr × Obj)} {s : Shared} {Q E : Value → Shared → Prop}
    {r : Rule} {oa : Addr} {d : Int} {t t1 t2 t3 : Tok}
    (B : Below A₀ base outer h₀) (F : Fr h₀ L s.heap m) (X : (hd.heap_39 w.params).In h₀) (N : News h₀ L s.heap news) (T : Top hd.view_39 (looseW hd.view_39 [Str.ofString "_law_starts"]) mean mg mb h₀) (hk : cs.kind = .function)
    (hdp : dp + 6 < recursionLimit) (hun : un + 60 < cLine)
    (hm : (oa, tupObj r t1 t2 t3) ∈ news) (he : r.ending.length ≤ 1000) (hg : r.given.length ≤ 1000) (h1 : 1 ≤ r.gone) (h3 : r.gone ≤ 3)
    (hret : ∀ t h' tk', Fr h₀ L h' m → News h₀ L h' news → Q (.str (S (written r d)) t) { s with heap := h', toks := tk' }) :
    wpAny (model PySem.Challenge.rw_iv0074_01.row.prog w) (ktrTop dp un gd cn cs L a ccd cl outer) (call (.ref 104) [.ref oa, .int d t]) Q E s := by
  obtain ⟨ending, whole, gone, given, onward⟩ := r
  dsimp only [tupObj] at hm he hg h1 h3
  have hretx : ∀ x, written ⟨ending, whole, gone, given, onward⟩ d = x → ∀ t h' tk', Fr h₀ L h' m → News h₀ L h' news → Q (.str (S x) t) { s with heap := h', toks := tk' } := fun x ex => ex ▸ hret
  w_top off
  k_with_none
  (k_with "eval Constant str" => (k_here; first | (with_reducible refine Mine.const_S Mine.lit_0 ?_) | (with_reducible refine Mine.const_S Mine.lit_1 ?_) | (with_reducible refine Mine.const_S Mine.lit_2 ?_) | (with_reducible refine Mine.const_S Mine.lit_3 ?_) | (with_reducible refine Mine.const_S Mine.lit_4 ?_) | (with_reducible refine Mine.const_S Mine.lit_5 ?_) | (with_reducible refine Mine.const_S Mine.lit_6 ?_) | (with_reducible refine Mine.const_S Mine.lit_7 ?_) | (with_reducible refine Mine.const_S Mine.lit_8 ?_) | (with_reducible refine Mine.const_S Mine.lit_9 ?_) | (with_reducible refine Mine.const_S Mine.lit_10 ?_) | (with_reducible refine Mine.const_S Mine.lit_11 ?_) | (with_reducible refine Mine.const_S Mine.lit_12 ?_) | (with_reducible refine Mine.const_S Mine.lit_13 ?_) | (with_reducible refine Mine.const_S Mine.lit_14 ?_) | (with_reducible refine Mine.const_S Mine.lit_15 ?_) | (with_reducible refine Mine.const_S Mine.lit_16 ?_) | (with_reducible refine Mine.const_S Mine.lit_17 ?_) | (with_reducible refine Mine.const_S Mine.lit_18 ?_) | (with_reducible refine Mine.const_S Mine.lit_19 ?_) | (with_reducible refine Mine.const_S Mine.lit_20 ?_) | (with_reducible refine Mine.const_S Mine.lit_21 ?_) | (with_reducible refine Mine.const_S Mine.lit_22 ?_) | (with_reducible refine Mine.const_S Mine.lit_23 ?_) | (with_reducible refine Mine.const_S Mine.lit_24 ?_) | (with_reducible refine Mine.const_S Mine.lit_25 ?_) | (with_reducible refine Mine.const_S Mine.lit_26 ?_) | (with_reducible refine Mine.const_S Mine.lit_27 ?_) | (with_reducible refine Mine.const_S Mine.lit_28 ?_) | (with_reducible refine Mine.const_S Mine.lit_29 ?_) | (with_reducible refine Mine.const_S Mine.lit_30 ?_) | (with_reducible refine Mine.const_S Mine.lit_31 ?_) | (with_reducible refine Mine.const_S Mine.lit_32 ?_) | (with_reducible refine Mine.const_S Mine.lit_33 ?_) | (with_reducible refine Mine.const_S Mine.lit_34 ?_); intro _ _))
  (k_with "eval IfExp" => (k_here; first | (with_reducible refine Mine.ifexp_S Mine.lit_7 Mine.lit_12 (by decide) (by decide) ?_) | (with_reducible refine Mine.ifexp_S Mine.lit_9 Mine.lit_8 (by decide) (by decide) ?_)))
  (k_with "call builtin:len" => (k_here; (with_reducible show wpAny _ _ (call (Value.builtin "len") [Value.str (Mine.S _) _]) _ _ _); (refine Mine.len_S (by walk_at "OM") ?_); intro _ _))
  (k_with "truthy str" => (k_here; (with_reducible show wpAny _ _ (PySem.truthy (Value.str (Mine.S _) _)) _ _ _); (refine Mine.truthy_S (by walk_at "OM") ?_); intro _))
  (k_with "compareOp LtE str str" => (k_here; (with_reducible refine Mine.le_S ?_)))
  (k_with "compareOp Eq str str" => (k_here; (with_reducible refine Mine.eq_SS ?_)))
  (k_with "compareOp NotEq str str" => (k_here; (with_reducible refine Mine.ne_SS ?_)))
  (k_with "compareOp NotIn str str" => (k_here; (with_reducible refine Mine.notin_S ?_)))
  (k_with "binaryOp Add str str" => (k_here; (with_reducible show wpAny _ _ (binaryOp Operator.Add (Value.str (Mine.S _) _) (Value.str (Mine.S _) _)) _ _ _); (refine Mine.add_S (by walk_at "OM") ?_); intro _ _))
  (k_with "call builtin:str.find" => (k_here; (with_reducible refine Mine.find_SS ?_); intro _ _))
  (k_with "call builtin:str.startswith" => (k_here; (with_reducible refine Mine.starts_SS ?_)))
  (k_with "call builtin:str.endswith" => (k_here; (with_reducible refine Mine.ends_SS ?_)))
  (k_with "call builtin:str.strip" => (k_here; (with_reducible show wpAny _ _ (call (Value.builtin "str.strip") [Value.str (Mine.S _) _]) _ _ _); (refine Mine.strip_SS (by walk_at "OM") ?_); intro _ _))
  (k_with "subscriptTail Name Name str int" => (k_here; (with_reducible show wpAny _ _ (subscriptTail _ _ (Value.str (Mine.S _) _) (Value.int _ _)) _ _ _); (refine Mine.item_SS (by walk_at "OM") (by walk_at "OM") (by walk_at "OM") ?_); intro _ _))
  (k_with "subscriptTail Name Constant str int" => (k_here; (with_reducible show wpAny _ _ (subscriptTail _ _ (Value.str (Mine.S _) _) (Value.int _ _)) _ _ _); (refine Mine.item_SS (by walk_at "OM") (by walk_at "OM") (by walk_at "OM") ?_); intro _ _))
  (k_with "subscriptTail Name BinOp str int" => (k_here; (with_reducible show wpAny _ _ (subscriptTail _ _ (Value.str (Mine.S _) _) (Value.int _ _)) _ _ _); (refine Mine.item_SS (by walk_at "OM") (by walk_at "OM") (by walk_at "OM") ?_); intro _ _))
  (k_with "subscriptTail Name UnaryOp str int" => (k_here; (with_reducible show wpAny _ _ (subscriptTail _ _ (Value.str (Mine.S _) _) (Value.int (-1) _)) _ _ _); (refine Mine.item_SL ?_ (by walk_at "OM") ?_); rotate_left; intro _ _))
  (k_with "subscriptTail Name Name str int" => (k_here; (with_reducible show wpAny _ _ (subscriptTail _ _ (Value.str (Str.ofString _) _) (Value.int _ _)) _ _ _); (refine Mine.item_lit Mine.lit_34 (by (first | omega | exact fmod_lo _ (by decide) | exact fmod_hi _ (by decide) | fail "no bound")) (by (first | omega | exact fmod_lo _ (by decide) | exact fmod_hi _ (by decide) | fail "no bound")) (by decide) ?_); intro _ _))
  (k_with "subscriptTail Name Slice str ref" => (k_here; (with_reducible show wpAny _ _ (subscriptTail _ (Expr.Slice none (some _) none _) (Value.str (Mine.S _) _) _) _ _ _); (with_reducible rename Fr _ _ _ _ => wF); (with_reducible rename News _ _ _ _ => wN); (first | (refine Mine.slice_SS_to wF wN (by walk_at "OM") (by walk_at "OM") ?_) | (refine Mine.slice_SS_neg wF wN (by walk_at "OM") (by walk_at "OM") (by walk_at "OM") ?_)); intro _ _ _ _ _))
  (k_with "subscriptTail Name Slice str ref" => (k_here; (with_reducible show wpAny _ _ (subscriptTail _ (Expr.Slice (some _) none none _) (Value.str (Mine.S _) _) _) _ _ _); (with_reducible rename Fr _ _ _ _ => wF); (with_reducible rename News _ _ _ _ => wN); (refine Mine.slice_SS_from wF wN (by walk_at "OM") (by walk_at "OM") ?_); intro _ _ _ _ _))
  (k_with "subscriptTail Name Slice str ref" => (k_here; (with_reducible show wpAny _ _ (subscriptTail _ (Expr.Slice (some _) (some _) none _) (Value.str (Mine.S _) _) _) _ _ _); (with_reducible rename Fr _ _ _ _ => wF); (with_reducible rename News _ _ _ _ => wN); (refine Mine.slice_SS_mid wF wN (by walk_at "OM") (by walk_at "OM") (by walk_at "OM") (by walk_at "OM") ?_); intro _ _ _ _ _))
  (k_with "subscriptTail Name Slice str ref" => (k_here; (with_reducible show wpAny _ _ (subscriptTail _ (Expr.Slice none none (some _) _) (Value.str (Mine.S _) _) _) _ _ _); (with_reducible rename Fr _ _ _ _ => wF); (with_reducible rename News _ _ _ _ => wN); (refine Mine.slice_SS_rev wF wN (by walk_at "OM") ?_); intro _ _ _ _ _))
  (k_with "subscriptTail BinOp Slice str ref" => (k_here; (with_reducible show wpAny _ _ (subscriptTail _ (Expr.Slice none (some _) none _) (Value.str (Mine.S _) _) _) _ _ _); (with_reducible rename Fr _ _ _ _ => wF); (with_reducible rename News _ _ _ _ => wN); (first | (refine Mine.slice_SS_to wF wN (by walk_at "OM") (by walk_at "OM") ?_) | (refine Mine.slice_SS_neg wF wN (by walk_at "OM") (by walk_at "OM") (by walk_at "OM") ?_)); intro _ _ _ _ _))
  (k_with "subscriptTail BinOp Slice str ref" => (k_here; (with_reducible show wpAny _ _ (subscriptTail _ (Expr.Slice (some _) none none _) (Value.str (Mine.S _) _) _) _ _ _); (with_reducible rename Fr _ _ _ _ => wF); (with_reducible rename News _ _ _ _ => wN); (refine Mine.slice_SS_from wF wN (by walk_at "OM") (by walk_at "OM") ?_); intro _ _ _ _ _))
  (k_with "subscriptTail BinOp Slice str ref" => (k_here; (with_reducible show wpAny _ _ (subscriptTail _ (Expr.Slice (some _) (some _) none _) (Value.str (Mine.S _) _) _) _ _ _); (with_reducible rename Fr _ _ _ _ => wF); (with_reducible rename News _ _ _ _ => wN); (refine Mine.slice_SS_mid wF wN (by walk_at "OM") (by walk_at "OM") (by walk_at "OM") (by walk_at "OM") ?_); intro _ _ _ _ _))
  (k_with "subscriptTail BinOp Slice str ref" => (k_here; (with_reducible show wpAny _ _ (subscriptTail _ (Expr.Slice none none (some _) _) (Value.str (Mine.S _) _) _) _ _ _); (with_reducible rename Fr _ _ _ _ => wF); (with_reducible rename News _ _ _ _ => wN); (refine Mine.slice_SS_rev wF wN (by walk_at "OM") ?_); intro _ _ _ _ _))
  (k_with "pyIter ref" => ((with_reducible show wpAny _ _ (pyIter (Value.ref _)) (fun _ _ => LoopAtV _ _ _ _ _ _ _ _ _ _ _) _ _); refine Mine.Halt.go ?_))
  (k_with "pyIter str" => ((with_reducible show wpAny _ _ (pyIter (Value.str _ _)) (fun _ _ => LoopAtV _ _ _ _ _ _ _ _ _ _ _) _ _); refine Mine.Halt.go ?_))
  (k_with "exec For Name Name cons nil" => (k_here; (rename Fr _ _ _ _ => wlF); (with_unfolding_all refine For_invVF wlF (by exact rfl) (by exact rfl) ?_; k_whole)))
  (k_with "exec For Name Call cons nil" => (k_here; (rename Fr _ _ _ _ => wlF); (with_unfolding_all refine For_invVF wlF (by exact rfl) (by exact rfl) ?_; k_whole)))
  (k_with "exec For Name Subscript cons nil" => (k_here; (rename Fr _ _ _ _ => wlF); (with_unfolding_all refine For_invVF wlF (by exact rfl) (by exact rfl) ?_; k_whole)))
  (k_with "exec For Name Tuple cons nil" => (k_here; (rename Fr _ _ _ _ => wlF); (with_unfolding_all refine For_invVF wlF (by exact rfl) (by exact rfl) ?_; k_whole)))
  (k_with "KswEnd" => (refine Mine.Halt.go ?_))
  (k_with "ExitPost" => (refine Mine.Halt.go ?_))
  (k_with "LcEnd" => (refine Mine.Halt.go ?_))
  (k_with "LcBrk" => (refine Mine.Halt.go ?_))
  (k_with "LcPost" => (dsimp only [Mine.LcPost]))
  (k_with "call type:str" => (k_here; (with_reducible show wpAny _ _ (call (Value.type "str") [Value.int _ _]) _ _ _); (refine Mine.str_digit (by walk_at "OM") (by walk_at "OM") ?_); intro _ _))
  revert X
  k_fill
  intro X
  refine wpAny_call ?_
  k_dflt cell_enter
  rename_i g' L' h' FG' F' N' B' X' T'
  replace F' := fr_norm [(Str.ofString "dress", .int d t), (Str.ofString "order", .ref oa)] F' rfl
  repeat' (first | (k_unfold; (try dsimp only)) | ((fail_if_success (with_reducible show Mine.Halt _)); k_end; wrow_close) | walk1 | (dsimp only; walk1) | (leave1; walk_say "STEP leave1"; try dsimp only) | fail "no step")
  (with_reducible rename Fr _ _ _ _ => hF)
  (with_reducible rename News _ _ _ _ => hN)
  refine Halt.out ?_
  refine' text_cut (σ := List Nat × Tok) (fun _ => news) (fun c => [(Str.ofString "backward", .str (S c.1) c.2)]) [] (fun i c => c.1 = (ending.take i).reverse) (fun _ => False) ([], _) rfl hF hN ?kk ?start ?turn ?brk ?done
  case kk => kst_all
  case start => simp
  case brk => intro c u h tk hf; exact hf.elim
  case turn =>
    clear hF hN
    rintro i k tk1 ⟨z, tz⟩ u h tk own I hi hk1 hj hoff F' N'
    dsimp only at hj F' N' ⊢
    have hz : z.length ≤ ending.length := by rw [hj]; simp; omega
    try k_fold
    repeat' (first | (k_unfold; (try dsimp only)) | ((fail_if_success (with_reducible show Mine.Halt _)); k_end; wrow_close) | walk1 | (dsimp only; walk1) | (leave1; walk_say "STEP leave1"; try dsimp only) | fail "no step")
    refine Halt.out (lc_end ([k] ++ z, _) (by assumption) (by assumption) (by intro p hp; (try simp only [List.mem_append, List.mem_cons, List.not_mem_nil, or_false, or_assoc] at hp); first | (simp [hp]; done) | (with_reducible refine Or.elim hp (fun hp => ?_) (fun hp => ?_) <;> (first | (simp [hp]; done) | (with_reducible refine Or.elim hp (fun hp => ?_) (fun hp => ?_) <;> (first | (simp [hp]; done) | (with_reducible refine Or.elim hp (fun hp => ?_) (fun hp => ?_) <;> (first | (simp [hp]; done) | (with_reducible refine Or.elim hp (fun hp => ?_) (fun hp => ?_) <;> ((simp [hp]; done)))))))))) (by intro p hp; (try simp only [List.mem_append, List.mem_cons, List.not_mem_nil, or_false, or_assoc] at hp); first | (simp [hp]; done) | (with_reducible refine Or.elim hp (fun hp => ?_) (fun hp => ?_) <;> (first | (simp [hp]; done) | (with_reducible refine Or.elim hp (fun hp => ?_) (fun hp => ?_) <;> (first | (simp [hp]; done) | (with_reducible refine Or.elim hp (fun hp => ?_) (fun hp => ?_) <;> (first | (simp [hp]; done) | (with_reducible refine Or.elim hp (fun hp => ?_) (fun hp => ?_) <;> ((simp [hp]; done)))))))))) (fun p hp hm => hoff p hp (List.mem_singleton.mp hm)) (by kst_all) (by first | (intro z h1 h2 h3; (try dsimp only [kstB]); (repeat (refine Eq.trans (if_neg (by (first | exact h1 | exact Mine.off_stored h3 (by decide +kernel) | ((fail_if_success (exact Mine.not_stored h3)); exact Mine.sub_stored h3 (by decide +kernel)) | exact h2 _ (.head _) | exact h2 _ (.tail _ (.head _)) | exact h2 _ (.tail _ (.tail _ (.head _))) | exact h2 _ (.tail _ (.tail _ (.tail _ (.head _))))))) ?_)); first | exact if_neg (Mine.not_stored h3) | exact rfl) | (intro z h1 h2 h3; (try simp only [List.forall_mem_cons, List.not_mem_nil, false_implies, implies_true, and_true, ne_eq] at h2); (try simp only [List.contains_cons, List.contains_nil, Bool.or_false, Bool.or_eq_false_iff, beq_eq_false_iff_ne, ne_eq] at h3); simp [kstB, h1, h2, h3])) ?_)
    dsimp only
    rw [hj, List.take_add_one, hk1]
    simp
  case done =>
    clear hF hN
    rintro ⟨z, tz⟩ u h tk hj F' N'
    dsimp only at hj F' N' ⊢
    rw [List.take_length] at hj
    have hz : z.length = ending.length := by rw [hj]; simp
    have hzb : z.length ≤ 1000 := Nat.le_trans (Nat.le_of_eq hz) (by assumption)
    repeat' (first | (k_unfold; (try dsimp only)) | ((fail_if_success (with_reducible show Mine.Halt _)); k_end; wrow_close) | walk1 | (dsimp only; walk1) | (leave1; walk_say "STEP leave1"; try dsimp only) | fail "no step")
    all_goals (
      subst_vars
      simp only [List.take_length] at *
      refine hretx _ ?_ _ _ _ (by assumption) (by assumption)
      simp [written, ruleText, *])
end Mine

end
namespace Mine
section
variable {prog : Program} {w : World} {A : Around} {E : Value → Shared → Prop} {s : Shared} {h₀ : Heap} {L : Addr} {m : Str → Option Value} {env : Env}
theorem paired_mono {α β : Type} {F G : α → β → Prop} (h : ∀ a b, F a b → G a b) : ∀ {l₁ : List α} {l₂ : List β}, Paired F l₁ l₂ → Paired G l₁ l₂
  | _, _, .nil => .nil
  | _, _, .cons a r => .cons (h _ _ a) (paired_mono h r)
noncomputable def TestPost (ok : Bool) (Y N : Prop) : Prop := (ok = true → Y) ∧ (ok = false → N)

theorem rest_T {ct elt : PySem.Expr} {x : Str} {scope : Scope} {cl : List (Str × Addr)} {S : List (Addr × Obj) → Prop} {P : Nat → Value → Prop} {Fin : List Value → List (Addr × Obj) → Prop} {n : Nat} (J : Nat → List Value → List (Addr × Obj) → Prop)
    (turn : ∀ i ys news, i < n → J i ys news → ∀ v I oI C oC D m₂ h tk (E' : Value → Shared → Prop), P i v → LCg.NsObj oC m₂ → m₂ x = some v → Fr h₀ L h m → News h₀ L h ((I, oI) :: (C, oC) :: (D, LCg.lst ys) :: news) → LCg.Off3 I C D news → ((@Ne Nat I C) ∧ (@Ne Nat I D) ∧ (@Ne Nat C D)) →
      wpAny (model prog w) A (isTrue ct (compEnvC scope cl C env) (eval ct (compEnvC scope cl C env))) (fun ok s' => TestPost ok
        (wpAny (model prog w) A (eval elt (compEnvC scope cl C env)) (LCg.CompEnd h₀ L m { s with heap := h, toks := tk } I oI C oC D (LCg.lst ys) S (fun y news' => J (i + 1) (ys ++ [y]) news')) E' s')
        (LCg.CompEnd h₀ L m { s with heap := h, toks := tk } I oI C oC D (LCg.lst ys) S (fun _ news' => J (i + 1) ys news') Value.none s')) E' { s with heap := h, toks := tk })
    (done : ∀ ys news, J n ys news → Fin ys news) : ∀ (k i : Nat) (ys : List Value) (news : List (Addr × Obj)), i + k = n → J i ys news → LCt.CompRestT prog w A h₀ L m env ct elt x scope cl s S P Fin k i ys news := by
  intro k
  induction k with
  | zero =>
    intro i ys news hi hJ
    have hi : i = n := by omega
    subst hi
    exact done ys news hJ
  | succ k ih =>
    intro i ys news hi hJ v I oI C oC D m₂ h tk E' hP hC hx F N hoff hne
    refine wpAny_mono (turn i ys news (by omega) hJ v I oI C oC D m₂ h tk E' hP hC hx F N hoff hne) (fun ok s' p => ?_) fun _ _ e => e
    cases ok with
    | true =>
      simp only [if_true]
      refine wpAny_mono (p.1 rfl) (fun y s₃ p3 => ?_) fun _ _ e => e
      obtain ⟨h', tk', news', e, F', N', o', hS, r⟩ := p3
      exact ⟨h', tk', news', e, F', N', o', hS, ih (i + 1) _ _ (by omega) r⟩
    | false =>
      simp only [Bool.false_eq_true, if_false]
      obtain ⟨h', tk', news', e, F', N', o', hS, r⟩ := p.2 rfl
      exact ⟨h', tk', news', e, F', N', o', hS, ih (i + 1) _ _ (by omega) r⟩
noncomputable def CompAtT (prog : Program) (w : World) (A : Around) (env : Env) (ct elt : PySem.Expr) (x : Str) (scope : Scope) (cl : List (Str × Addr)) (Fin : Heap → Addr → (Str → Option Value) → Shared → List Value → List (Addr × Obj) → Prop) (it : Value) (s₂ : Shared) : Prop :=
  ∃ (h₀ : Heap) (L : Addr) (m : Str → Option Value) (I : Addr) (fp : List Addr) (n : Nat) (P : Nat → Value → Prop) (St : Nat → Heap → Prop) (S : List (Addr × Obj) → Prop) (news : List (Addr × Obj)), it = .ref I ∧ L = env.locals ∧ Walks prog w A I fp [I] n P St ∧ n ≤ sizeLine ∧
    (∀ i h, St i h → ∃ o, h.get? I = some o) ∧ (∀ i h h' o nw, St i h → h.get? I = some o → h'.get? I = some o → (∀ b o, h₀.get? b = some o → h'.get? b = some o) → News h₀ L h' nw → S nw → St i h') ∧
    St 0 s₂.heap ∧ (∀ b ∈ fp, b < s₂.heap.objs.size) ∧ Fr h₀ L s₂.heap m ∧ News h₀ L s₂.heap news ∧ L ≠ I ∧ h₀.get? I = none ∧ (∀ p ∈ news, p.1 ≠ I) ∧ S news ∧ LCt.CompRestT prog w A h₀ L m env ct elt x scope cl s₂ S P (Fin h₀ L m s₂) n 0 [] news
theorem comp_ET {ct elt iter : PySem.Expr} {x : Str} {px : Pos} {scope : Scope} {cl : List (Str × Addr)} {pos : Pos} {Q : Value → Shared → Prop}
    (hclos : closureFor scope env = pure cl) (hcell : ∀ y ∈ scope.names, y.2 ≠ .cell) (hkind : scope.kind = .function)
    (hnames : ∀ y ∈ scope.names, y.2 = .local → scope.names.lookup y.1 = some .local) (hx : scope.names.lookup x = some .local)
    (h : wpAny (model prog w) A (eval iter env) (fun xv s₁ => wpAny (model prog w) A (pyIter xv) (CompAtT prog w A env ct elt x scope cl (fun h₀ L m s₂ => LCg.FinE h₀ L m s₂ Q)) E s₁) E s)
    (hs : ∀ x, foldedSetIterable iter env x = pure x := by intro _; rfl) :
    wpAny (model prog w) A (eval (.ListComp elt [⟨.Name x px, iter, [ct], 0⟩] scope pos) env) Q E s := by
  rw [eval_ListComp]
  refine wpAny_comprehension_free (use := none) rfl hs hclos hkind hnames (wpAny_mono h (fun xv s₁ h₁ => wpAny_mono h₁ (fun it s₂ h₂ => ?_) fun _ _ e => e) fun _ _ e => e)
  obtain ⟨h₀, L, m, I, fp, n, P, St, S, news, rfl, rfl, W, hsz, hIo, hSt, hst, hfp, F, N, hIL, hI₀, off, hS, R⟩ := h₂
  refine LCt.block_T W hsz hIo hSt hcell hkind hx hst hfp F N hIL hI₀ off hS R ?_
  intro D C h tk m' ys news' F' N' o1 hn hC₀ hD₀ hCL hDL hCD offC fin
  refine ⟨m', hn, fun h'' hs'' => fin D h'' tk (F'.change hs'' hCL hC₀) (fun p hp => ?_) o1⟩
  refine ⟨hs''.extBut _ _ ?_ (N' p hp).1, (N' p hp).2⟩
  rcases List.mem_cons.mp hp with rfl | hp
  · exact Ne.symm hCD
  · exact offC p hp
theorem comp_AT {ct elt iter : PySem.Expr} {x y : Str} {px py : Pos} {scope : Scope} {cl : List (Str × Addr)} {pos spos : Pos} {Q : Flow → Shared → Prop}
    (hsw : swapsWith (.ListComp elt [⟨.Name x px, iter, [ct], 0⟩] scope pos) (some (.Name y py)) spos.line env = pure true)
    (hclos : closureFor scope env = pure cl) (hcell : ∀ z ∈ scope.names, z.2 ≠ .cell) (hkind : scope.kind = .function)
    (hnames : ∀ z ∈ scope.names, z.2 = .local → scope.names.lookup z.1 = some .local) (hx : scope.names.lookup x = some .local)
    (hy : env.kindOf y = some .local) (hp : (env.scope.kind == .class || (env.scope.kind == .module && env.locals != env.globals)) = false)
    (h : wpAny (model prog w) A (eval iter env) (fun xv s₁ => wpAny (model prog w) A (pyIter xv) (CompAtT prog w A env ct elt x scope cl (fun h₀ L m s₂ => LCg.FinA h₀ L m s₂ y Q)) E s₁) E s)
    (hs : ∀ x, foldedSetIterable iter env x = pure x := by intro _; rfl) :
    wpAny (model prog w) A (exec (.Assign [.Name y py] (.ListComp elt [⟨.Name x px, iter, [ct], 0⟩] scope pos) spos) env) Q E s := by
  rw [exec_Assign_Name_used _ _ _ _ hsw]
  refine wpAny_bind (wpAny_standAt (wpAny_bind ?_))
  show wpAny _ A (do let _ ← comprehension (.ListComp elt [⟨.Name x px, iter, [ct], 0⟩] scope pos) scope env _ (newList []) false (eval iter env) (some (assign (.Name y py) env))) _ _ s
  refine wpAny_bind (wpAny_mono (wpAny_comprehension_free (use := some (assign (.Name y py) env)) (Q := fun _ s' => Q .next s') rfl hs hclos hkind hnames
    (wpAny_mono h (fun xv s₁ h₁ => wpAny_mono h₁ (fun it s₂ h₂ => ?_) fun _ _ e => e) fun _ _ e => e)) (fun _ s' hq => wpAny_pure (wpAny_pure hq)) fun _ _ e => e)
  obtain ⟨h₀, L, m, I, fp, n, P, St, S, news, rfl, rfl, W, hsz, hIo, hSt, hst, hfp, F, N, hIL, hI₀, off, hS, R⟩ := h₂
  refine LCt.block_T W hsz hIo hSt hcell hkind hx hst hfp F N hIL hI₀ off hS R ?_
  intro D C h' tk m' ys news' F' N' o1 hn hC₀ hD₀ hCL hDL hCD offC fin
  show wpAny _ A (assign (.Name y py) env (.ref D)) _ _ _
  refine wpAny_assign_Name (wpAny_storeName_local hy F'.ns (fun h₂ hn₂ hs₂ => ?_) hp)
  have hL₀ : h₀.get? env.locals = none := Heap.get?_none_of_le F'.above
  have F₂ : Fr h₀ env.locals h₂ (fun z => if z = y then some (.ref D) else m z) := ⟨hn₂, fun b o e => hs₂.extBut b o (fun q => by rw [q, hL₀] at e; cases e) (F'.keep b o e), F'.above⟩
  refine ⟨m', hn.sameBut hs₂ hCL, fun h'' hs'' => fin D h'' _ (F₂.change hs'' hCL hC₀) (fun p hp => ?_) o1⟩
  have z : h₂.get? p.1 = some p.2 := hs₂.extBut _ _ (N' p hp).2.1 (N' p hp).1
  refine ⟨hs''.extBut _ _ ?_ z, (N' p hp).2⟩
  rcases List.mem_cons.mp hp with rfl | hp
  · exact Ne.symm hCD
  · exact offC p hp
theorem list_compT {ct elt : PySem.Expr} {x : Str} {scope : Scope} {cl : List (Str × Addr)} {Fin : Heap → Addr → (Str → Option Value) → Shared → List Value → List (Addr × Obj) → Prop} {l : Addr} {vs : List Value} {nn : Nat} {news₀ : List (Addr × Obj)} {s₁ : Shared} (J : Nat → List Value → List (Addr × Obj) → Prop)
    (hh : A.handled = none) (hL : L = env.locals) (F₁ : Fr h₀ L s₁.heap m) (N₁ : News h₀ L s₁.heap news₀) (hl : (l, listOf vs.toArray nn) ∈ news₀) (hsz : vs.length ≤ sizeLine) (hJ : J 0 [] news₀)
    (hSn : ∀ i ys news, J i ys news → (l, listOf vs.toArray nn) ∈ news)
    (turn : ∀ S : List (Addr × Obj) → Prop, (∀ nw, (l, listOf vs.toArray nn) ∈ nw → S nw) → ∀ i ys news, i < vs.length → J i ys news → ∀ v I oI C oC D m₂ h tk (E' : Value → Shared → Prop), vs[i]? = some v → LCg.NsObj oC m₂ → m₂ x = some v → Fr h₀ L h m → News h₀ L h ((I, oI) :: (C, oC) :: (D, LCg.lst ys) :: news) → LCg.Off3 I C D news → ((@Ne Nat I C) ∧ (@Ne Nat I D) ∧ (@Ne Nat C D)) →
      wpAny (model prog w) A (isTrue ct (compEnvC scope cl C env) (eval ct (compEnvC scope cl C env))) (fun ok s' => TestPost ok
        (wpAny (model prog w) A (eval elt (compEnvC scope cl C env)) (LCg.CompEnd h₀ L m { s₁ with heap := h, toks := tk } I oI C oC D (LCg.lst ys) S (fun y news' => J (i + 1) (ys ++ [y]) news')) E' s')
        (LCg.CompEnd h₀ L m { s₁ with heap := h, toks := tk } I oI C oC D (LCg.lst ys) S (fun _ news' => J (i + 1) ys news') Value.none s')) E' { s₁ with heap := h, toks := tk })
    (done : ∀ h ys news, J vs.length ys news → Fin h₀ L m { s₁ with heap := h } ys news) :
    wpAny (model prog w) A (pyIter (.ref l)) (CompAtT prog w A env ct elt x scope cl Fin) E s₁ := by
  have hlN := N₁ _ hl
  have hls : s₁.heap.IsList l vs.toArray := ⟨_, hlN.1, rfl, nn, rfl⟩
  have hlt : l < s₁.heap.objs.size := Heap.lt_size hlN.1
  refine wpAny_pyIter_list hls ?_
  have up : ∀ b o, s₁.heap.get? b = some o → (s₁.heap.push { cls := .type "list_iterator", data := .fields #[.ref l, .int 0 0] }).get? b = some o := fun b o e => Heap.get?_push_of_some _ e
  have W := Walks.list (prog := prog) (w := w) hh s₁.heap.objs.size l (Nat.ne_of_lt hlt) vs.toArray
  rw [List.size_toArray] at W
  refine ⟨h₀, L, m, s₁.heap.objs.size, _, vs.length, _, _, LCg.SrcAt h₀ l vs.toArray, news₀, rfl, hL, W, hsz, (fun i h st => by obtain ⟨o, e, _⟩ := st.1; exact ⟨o, e⟩), LCg.list_st, ⟨⟨_, Heap.get?_push_size _ rfl, rfl, rfl⟩, hls.push _⟩, (fun b hb => ?_),
    F₁.keeps up, N₁.grown up, Nat.ne_of_lt F₁.ns.lt, next_is_new F₁, (fun p hp => Nat.ne_of_lt (Heap.lt_size (N₁ p hp).1)), .inr ⟨_, hl, rfl, nn, rfl⟩, ?_⟩
  · show b < (s₁.heap.push _).objs.size
    rw [Heap.size_push]
    rcases List.mem_cons.mp hb with rfl | hb
    · exact Nat.lt_succ_self _
    · rw [List.mem_singleton.mp hb]; exact Nat.lt_succ_of_lt hlt
  · refine rest_T J ?_ (fun ys news => done _ ys news) vs.length 0 [] news₀ (Nat.zero_add _) hJ
    intro i ys news hi hJ' v I oI C oC D m₂ h tk E' hP
    exact turn (LCg.SrcAt h₀ l vs.toArray) (fun nw hm => .inr ⟨_, hm, rfl, nn, rfl⟩) i ys news hi hJ' v I oI C oC D m₂ h tk E' (by simpa using hP)
theorem text_compT {ct elt : PySem.Expr} {x : Str} {scope : Scope} {cl : List (Str × Addr)} {Fin : Heap → Addr → (Str → Option Value) → Shared → List Value → List (Addr × Obj) → Prop} {l : List Nat} {t : Tok} {news₀ : List (Addr × Obj)} {s₁ : Shared} (J : Nat → List Value → List (Addr × Obj) → Prop)
    (hh : A.handled = none) (hL : L = env.locals) (F₁ : Fr h₀ L s₁.heap m) (N₁ : News h₀ L s₁.heap news₀) (hsz : l.length ≤ sizeLine) (hJ : J 0 [] news₀)
    (turn : ∀ S : List (Addr × Obj) → Prop, (∀ nw, S nw) → ∀ i ys news, i < l.length → J i ys news → ∀ v I oI C oC D m₂ h tk (E' : Value → Shared → Prop), (∃ k t, l[i]? = some k ∧ v = .str (Mine.S [k]) t) → LCg.NsObj oC m₂ → m₂ x = some v → Fr h₀ L h m → News h₀ L h ((I, oI) :: (C, oC) :: (D, LCg.lst ys) :: news) → LCg.Off3 I C D news → ((@Ne Nat I C) ∧ (@Ne Nat I D) ∧ (@Ne Nat C D)) →
      wpAny (model prog w) A (isTrue ct (compEnvC scope cl C env) (eval ct (compEnvC scope cl C env))) (fun ok s' => TestPost ok
        (wpAny (model prog w) A (eval elt (compEnvC scope cl C env)) (LCg.CompEnd h₀ L m { s₁ with heap := h, toks := tk } I oI C oC D (LCg.lst ys) S (fun y news' => J (i + 1) (ys ++ [y]) news')) E' s')
        (LCg.CompEnd h₀ L m { s₁ with heap := h, toks := tk } I oI C oC D (LCg.lst ys) S (fun _ news' => J (i + 1) ys news') Value.none s')) E' { s₁ with heap := h, toks := tk })
    (done : ∀ h ys news, J l.length ys news → Fin h₀ L m { s₁ with heap := h } ys news) :
    wpAny (model prog w) A (pyIter (.str (S l) t)) (CompAtT prog w A env ct elt x scope cl Fin) E s₁ := by
  have hsz2 : (S l).cps.size = l.length := S_length l
  have go : ∀ (it : String) (St : Nat → Heap → Prop), Walks prog w A s₁.heap.objs.size [s₁.heap.objs.size] [s₁.heap.objs.size] (S l).cps.size (SignAt (S l)) (fun i h => h.IsStrIter s₁.heap.objs.size it (S l) t i) →
      CompAtT prog w A env ct elt x scope cl Fin (.ref s₁.heap.objs.size) { s₁ with heap := s₁.heap.push { cls := .type it, data := .fields #[.str (S l) t, .int 0 0] } } := by
    intro it St W
    rw [hsz2] at W
    have up : ∀ b o, s₁.heap.get? b = some o → (s₁.heap.push { cls := .type it, data := .fields #[.str (S l) t, .int 0 0] }).get? b = some o := fun b o e => Heap.get?_push_of_some _ e
    refine ⟨h₀, L, m, s₁.heap.objs.size, _, l.length, _, _, (fun _ => True), news₀, rfl, hL, W, hsz, (fun i h st => by obtain ⟨o, e, _⟩ := st; exact ⟨o, e⟩), (fun i h h' o nw st e e' _ _ _ => by obtain ⟨o', q, r⟩ := st; rw [e] at q; cases q; exact ⟨o, e', r⟩), ⟨_, Heap.get?_push_size _ rfl, rfl, rfl⟩, (fun b hb => ?_),
      F₁.keeps up, N₁.grown up, Nat.ne_of_lt F₁.ns.lt, next_is_new F₁, (fun p hp => Nat.ne_of_lt (Heap.lt_size (N₁ p hp).1)), trivial, ?_⟩
    · show b < (s₁.heap.push _).objs.size
      rw [Heap.size_push, List.mem_singleton.mp hb]
      exact Nat.lt_succ_self _
    · refine rest_T J ?_ (fun ys news => done _ ys news) l.length 0 [] news₀ (Nat.zero_add _) hJ
      intro i ys news hi hJ' v I oI C oC D m₂ h tk E' hP
      refine turn (fun _ => True) (fun _ => trivial) i ys news hi hJ' v I oI C oC D m₂ h tk E' ?_
      obtain ⟨c, u, h1, h2⟩ := hP
      refine ⟨c, u, ?_, h2⟩
      rw [← h1]
      show l[i]? = l.toArray[i]?
      simp
  cases ha : (S l).cps.all (· < 128)
  · exact wpAny_pyIter_wide ha (go "str_iterator" (fun _ _ => True) (Walks.strWide hh _ (S l) t))
  · exact wpAny_pyIter_ascii ha (go "str_ascii_iterator" (fun _ _ => True) (Walks.strAscii hh _ (S l) t))

theorem rest_U {elt : PySem.Expr} {x : Str} {scope : Scope} {cl : List (Str × Addr)} {S : List (Addr × Obj) → Prop} {P : Nat → Value → Prop} {Fin : List Value → List (Addr × Obj) → Prop} {n : Nat} (J : Nat → List Value → List (Addr × Obj) → Prop)
    (turn : ∀ i ys news, i < n → J i ys news → ∀ v I oI C oC D m₂ h tk (E' : Value → Shared → Prop), P i v → LCg.NsObj oC m₂ → m₂ x = some v → Fr h₀ L h m → News h₀ L h ((I, oI) :: (C, oC) :: (D, LCg.lst ys) :: news) → LCg.Off3 I C D news → ((@Ne Nat I C) ∧ (@Ne Nat I D) ∧ (@Ne Nat C D)) →
      wpAny (model prog w) A (eval elt (compEnvC scope cl C env)) (LCg.CompEnd h₀ L m { s with heap := h, toks := tk } I oI C oC D (LCg.lst ys) S (fun y news' => J (i + 1) (ys ++ [y]) news')) E' { s with heap := h, toks := tk })
    (done : ∀ ys news, J n ys news → Fin ys news) : ∀ (k i : Nat) (ys : List Value) (news : List (Addr × Obj)), i + k = n → J i ys news → LCg.CompRest prog w A h₀ L m env elt x scope cl s S P Fin k i ys news := by
  intro k
  induction k with
  | zero =>
    intro i ys news hi hJ
    have hi : i = n := by omega
    subst hi
    exact done ys news hJ
  | succ k ih =>
    intro i ys news hi hJ v I oI C oC D m₂ h tk E' hP hC hx F N hoff hne
    refine wpAny_mono (turn i ys news (by omega) hJ v I oI C oC D m₂ h tk E' hP hC hx F N hoff hne) (fun y s₃ p3 => ?_) fun _ _ e => e
    obtain ⟨h', tk', news', e, F', N', o', hS, r⟩ := p3
    exact ⟨h', tk', news', e, F', N', o', hS, ih (i + 1) _ _ (by omega) r⟩
noncomputable def CompAtU (prog : Program) (w : World) (A : Around) (env : Env) (elt : PySem.Expr) (x : Str) (scope : Scope) (cl : List (Str × Addr)) (Fin : Heap → Addr → (Str → Option Value) → Shared → List Value → List (Addr × Obj) → Prop) (it : Value) (s₂ : Shared) : Prop :=
  ∃ (h₀ : Heap) (L : Addr) (m : Str → Option Value) (I : Addr) (fp : List Addr) (n : Nat) (P : Nat → Value → Prop) (St : Nat → Heap → Prop) (S : List (Addr × Obj) → Prop) (news : List (Addr × Obj)), it = .ref I ∧ L = env.locals ∧ Walks prog w A I fp [I] n P St ∧ n ≤ sizeLine ∧
    (∀ i h, St i h → ∃ o, h.get? I = some o) ∧ (∀ i h h' o nw, St i h → h.get? I = some o → h'.get? I = some o → (∀ b o, h₀.get? b = some o → h'.get? b = some o) → News h₀ L h' nw → S nw → St i h') ∧
    St 0 s₂.heap ∧ (∀ b ∈ fp, b < s₂.heap.objs.size) ∧ Fr h₀ L s₂.heap m ∧ News h₀ L s₂.heap news ∧ L ≠ I ∧ h₀.get? I = none ∧ (∀ p ∈ news, p.1 ≠ I) ∧ S news ∧ LCg.CompRest prog w A h₀ L m env elt x scope cl s₂ S P (Fin h₀ L m s₂) n 0 [] news
theorem comp_EU {elt iter : PySem.Expr} {x : Str} {px : Pos} {scope : Scope} {cl : List (Str × Addr)} {pos : Pos} {Q : Value → Shared → Prop}
    (hclos : closureFor scope env = pure cl) (hcell : ∀ y ∈ scope.names, y.2 ≠ .cell) (hkind : scope.kind = .function)
    (hnames : ∀ y ∈ scope.names, y.2 = .local → scope.names.lookup y.1 = some .local) (hx : scope.names.lookup x = some .local)
    (h : wpAny (model prog w) A (eval iter env) (fun xv s₁ => wpAny (model prog w) A (pyIter xv) (CompAtU prog w A env elt x scope cl (fun h₀ L m s₂ => LCg.FinE h₀ L m s₂ Q)) E s₁) E s)
    (hs : ∀ x, foldedSetIterable iter env x = pure x := by intro _; rfl) :
    wpAny (model prog w) A (eval (.ListComp elt [⟨.Name x px, iter, [], 0⟩] scope pos) env) Q E s := by
  rw [eval_ListComp]
  refine wpAny_comprehension_free (use := none) rfl hs hclos hkind hnames (wpAny_mono h (fun xv s₁ h₁ => wpAny_mono h₁ (fun it s₂ h₂ => ?_) fun _ _ e => e) fun _ _ e => e)
  obtain ⟨h₀, L, m, I, fp, n, P, St, S, news, rfl, rfl, W, hsz, hIo, hSt, hst, hfp, F, N, hIL, hI₀, off, hS, R⟩ := h₂
  refine LCg.block_U W hsz hIo hSt hcell hkind hx hst hfp F N hIL hI₀ off hS R ?_
  intro D C h tk m' ys news' F' N' o1 hn hC₀ hD₀ hCL hDL hCD offC fin
  refine ⟨m', hn, fun h'' hs'' => fin D h'' tk (F'.change hs'' hCL hC₀) (fun p hp => ?_) o1⟩
  refine ⟨hs''.extBut _ _ ?_ (N' p hp).1, (N' p hp).2⟩
  rcases List.mem_cons.mp hp with rfl | hp
  · exact Ne.symm hCD
  · exact offC p hp
theorem comp_AU {elt iter : PySem.Expr} {x y : Str} {px py : Pos} {scope : Scope} {cl : List (Str × Addr)} {pos spos : Pos} {Q : Flow → Shared → Prop}
    (hsw : swapsWith (.ListComp elt [⟨.Name x px, iter, [], 0⟩] scope pos) (some (.Name y py)) spos.line env = pure true)
    (hclos : closureFor scope env = pure cl) (hcell : ∀ z ∈ scope.names, z.2 ≠ .cell) (hkind : scope.kind = .function)
    (hnames : ∀ z ∈ scope.names, z.2 = .local → scope.names.lookup z.1 = some .local) (hx : scope.names.lookup x = some .local)
    (hy : env.kindOf y = some .local) (hp : (env.scope.kind == .class || (env.scope.kind == .module && env.locals != env.globals)) = false)
    (h : wpAny (model prog w) A (eval iter env) (fun xv s₁ => wpAny (model prog w) A (pyIter xv) (CompAtU prog w A env elt x scope cl (fun h₀ L m s₂ => LCg.FinA h₀ L m s₂ y Q)) E s₁) E s)
    (hs : ∀ x, foldedSetIterable iter env x = pure x := by intro _; rfl) :
    wpAny (model prog w) A (exec (.Assign [.Name y py] (.ListComp elt [⟨.Name x px, iter, [], 0⟩] scope pos) spos) env) Q E s := by
  rw [exec_Assign_Name_used _ _ _ _ hsw]
  refine wpAny_bind (wpAny_standAt (wpAny_bind ?_))
  show wpAny _ A (do let _ ← comprehension (.ListComp elt [⟨.Name x px, iter, [], 0⟩] scope pos) scope env _ (newList []) false (eval iter env) (some (assign (.Name y py) env))) _ _ s
  refine wpAny_bind (wpAny_mono (wpAny_comprehension_free (use := some (assign (.Name y py) env)) (Q := fun _ s' => Q .next s') rfl hs hclos hkind hnames
    (wpAny_mono h (fun xv s₁ h₁ => wpAny_mono h₁ (fun it s₂ h₂ => ?_) fun _ _ e => e) fun _ _ e => e)) (fun _ s' hq => wpAny_pure (wpAny_pure hq)) fun _ _ e => e)
  obtain ⟨h₀, L, m, I, fp, n, P, St, S, news, rfl, rfl, W, hsz, hIo, hSt, hst, hfp, F, N, hIL, hI₀, off, hS, R⟩ := h₂
  refine LCg.block_U W hsz hIo hSt hcell hkind hx hst hfp F N hIL hI₀ off hS R ?_
  intro D C h' tk m' ys news' F' N' o1 hn hC₀ hD₀ hCL hDL hCD offC fin
  show wpAny _ A (assign (.Name y py) env (.ref D)) _ _ _
  refine wpAny_assign_Name (wpAny_storeName_local hy F'.ns (fun h₂ hn₂ hs₂ => ?_) hp)
  have hL₀ : h₀.get? env.locals = none := Heap.get?_none_of_le F'.above
  have F₂ : Fr h₀ env.locals h₂ (fun z => if z = y then some (.ref D) else m z) := ⟨hn₂, fun b o e => hs₂.extBut b o (fun q => by rw [q, hL₀] at e; cases e) (F'.keep b o e), F'.above⟩
  refine ⟨m', hn.sameBut hs₂ hCL, fun h'' hs'' => fin D h'' _ (F₂.change hs'' hCL hC₀) (fun p hp => ?_) o1⟩
  have z : h₂.get? p.1 = some p.2 := hs₂.extBut _ _ (N' p hp).2.1 (N' p hp).1
  refine ⟨hs''.extBut _ _ ?_ z, (N' p hp).2⟩
  rcases List.mem_cons.mp hp with rfl | hp
  · exact Ne.symm hCD
  · exact offC p hp
theorem list_compU {elt : PySem.Expr} {x : Str} {scope : Scope} {cl : List (Str × Addr)} {Fin : Heap → Addr → (Str → Option Value) → Shared → List Value → List (Addr × Obj) → Prop} {l : Addr} {vs : List Value} {nn : Nat} {news₀ : List (Addr × Obj)} {s₁ : Shared} (J : Nat → List Value → List (Addr × Obj) → Prop)
    (hh : A.handled = none) (hL : L = env.locals) (F₁ : Fr h₀ L s₁.heap m) (N₁ : News h₀ L s₁.heap news₀) (hl : (l, listOf vs.toArray nn) ∈ news₀) (hsz : vs.length ≤ sizeLine) (hJ : J 0 [] news₀)
    (hSn : ∀ i ys news, J i ys news → (l, listOf vs.toArray nn) ∈ news)
    (turn : ∀ S : List (Addr × Obj) → Prop, (∀ nw, (l, listOf vs.toArray nn) ∈ nw → S nw) → ∀ i ys news, i < vs.length → J i ys news → ∀ v I oI C oC D m₂ h tk (E' : Value → Shared → Prop), vs[i]? = some v → LCg.NsObj oC m₂ → m₂ x = some v → Fr h₀ L h m → News h₀ L h ((I, oI) :: (C, oC) :: (D, LCg.lst ys) :: news) → LCg.Off3 I C D news → ((@Ne Nat I C) ∧ (@Ne Nat I D) ∧ (@Ne Nat C D)) →
      wpAny (model prog w) A (eval elt (compEnvC scope cl C env)) (LCg.CompEnd h₀ L m { s₁ with heap := h, toks := tk } I oI C oC D (LCg.lst ys) S (fun y news' => J (i + 1) (ys ++ [y]) news')) E' { s₁ with heap := h, toks := tk })
    (done : ∀ h ys news, J vs.length ys news → Fin h₀ L m { s₁ with heap := h } ys news) :
    wpAny (model prog w) A (pyIter (.ref l)) (CompAtU prog w A env elt x scope cl Fin) E s₁ := by
  have hlN := N₁ _ hl
  have hls : s₁.heap.IsList l vs.toArray := ⟨_, hlN.1, rfl, nn, rfl⟩
  have hlt : l < s₁.heap.objs.size := Heap.lt_size hlN.1
  refine wpAny_pyIter_list hls ?_
  have up : ∀ b o, s₁.heap.get? b = some o → (s₁.heap.push { cls := .type "list_iterator", data := .fields #[.ref l, .int 0 0] }).get? b = some o := fun b o e => Heap.get?_push_of_some _ e
  have W := Walks.list (prog := prog) (w := w) hh s₁.heap.objs.size l (Nat.ne_of_lt hlt) vs.toArray
  rw [List.size_toArray] at W
  refine ⟨h₀, L, m, s₁.heap.objs.size, _, vs.length, _, _, LCg.SrcAt h₀ l vs.toArray, news₀, rfl, hL, W, hsz, (fun i h st => by obtain ⟨o, e, _⟩ := st.1; exact ⟨o, e⟩), LCg.list_st, ⟨⟨_, Heap.get?_push_size _ rfl, rfl, rfl⟩, hls.push _⟩, (fun b hb => ?_),
    F₁.keeps up, N₁.grown up, Nat.ne_of_lt F₁.ns.lt, next_is_new F₁, (fun p hp => Nat.ne_of_lt (Heap.lt_size (N₁ p hp).1)), .inr ⟨_, hl, rfl, nn, rfl⟩, ?_⟩
  · show b < (s₁.heap.push _).objs.size
    rw [Heap.size_push]
    rcases List.mem_cons.mp hb with rfl | hb
    · exact Nat.lt_succ_self _
    · rw [List.mem_singleton.mp hb]; exact Nat.lt_succ_of_lt hlt
  · refine rest_U J ?_ (fun ys news => done _ ys news) vs.length 0 [] news₀ (Nat.zero_add _) hJ
    intro i ys news hi hJ' v I oI C oC D m₂ h tk E' hP
    exact turn (LCg.SrcAt h₀ l vs.toArray) (fun nw hm => .inr ⟨_, hm, rfl, nn, rfl⟩) i ys news hi hJ' v I oI C oC D m₂ h tk E' (by simpa using hP)
theorem text_compU {elt : PySem.Expr} {x : Str} {scope : Scope} {cl : List (Str × Addr)} {Fin : Heap → Addr → (Str → Option Value) → Shared → List Value → List (Addr × Obj) → Prop} {l : List Nat} {t : Tok} {news₀ : List (Addr × Obj)} {s₁ : Shared} (J : Nat → List Value → List (Addr × Obj) → Prop)
    (hh : A.handled = none) (hL : L = env.locals) (F₁ : Fr h₀ L s₁.heap m) (N₁ : News h₀ L s₁.heap news₀) (hsz : l.length ≤ sizeLine) (hJ : J 0 [] news₀)
    (turn : ∀ S : List (Addr × Obj) → Prop, (∀ nw, S nw) → ∀ i ys news, i < l.length → J i ys news → ∀ v I oI C oC D m₂ h tk (E' : Value → Shared → Prop), (∃ k t, l[i]? = some k ∧ v = .str (Mine.S [k]) t) → LCg.NsObj oC m₂ → m₂ x = some v → Fr h₀ L h m → News h₀ L h ((I, oI) :: (C, oC) :: (D, LCg.lst ys) :: news) → LCg.Off3 I C D news → ((@Ne Nat I C) ∧ (@Ne Nat I D) ∧ (@Ne Nat C D)) →
      wpAny (model prog w) A (eval elt (compEnvC scope cl C env)) (LCg.CompEnd h₀ L m { s₁ with heap := h, toks := tk } I oI C oC D (LCg.lst ys) S (fun y news' => J (i + 1) (ys ++ [y]) news')) E' { s₁ with heap := h, toks := tk })
    (done : ∀ h ys news, J l.length ys news → Fin h₀ L m { s₁ with heap := h } ys news) :
    wpAny (model prog w) A (pyIter (.str (S l) t)) (CompAtU prog w A env elt x scope cl Fin) E s₁ := by
  have hsz2 : (S l).cps.size = l.length := S_length l
  have go : ∀ (it : String) (St : Nat → Heap → Prop), Walks prog w A s₁.heap.objs.size [s₁.heap.objs.size] [s₁.heap.objs.size] (S l).cps.size (SignAt (S l)) (fun i h => h.IsStrIter s₁.heap.objs.size it (S l) t i) →
      CompAtU prog w A env elt x scope cl Fin (.ref s₁.heap.objs.size) { s₁ with heap := s₁.heap.push { cls := .type it, data := .fields #[.str (S l) t, .int 0 0] } } := by
    intro it St W
    rw [hsz2] at W
    have up : ∀ b o, s₁.heap.get? b = some o → (s₁.heap.push { cls := .type it, data := .fields #[.str (S l) t, .int 0 0] }).get? b = some o := fun b o e => Heap.get?_push_of_some _ e
    refine ⟨h₀, L, m, s₁.heap.objs.size, _, l.length, _, _, (fun _ => True), news₀, rfl, hL, W, hsz, (fun i h st => by obtain ⟨o, e, _⟩ := st; exact ⟨o, e⟩), (fun i h h' o nw st e e' _ _ _ => by obtain ⟨o', q, r⟩ := st; rw [e] at q; cases q; exact ⟨o, e', r⟩), ⟨_, Heap.get?_push_size _ rfl, rfl, rfl⟩, (fun b hb => ?_),
      F₁.keeps up, N₁.grown up, Nat.ne_of_lt F₁.ns.lt, next_is_new F₁, (fun p hp => Nat.ne_of_lt (Heap.lt_size (N₁ p hp).1)), trivial, ?_⟩
    · show b < (s₁.heap.push _).objs.size
      rw [Heap.size_push, List.mem_singleton.mp hb]
      exact Nat.lt_succ_self _
    · refine rest_U J ?_ (fun ys news => done _ ys news) l.length 0 [] news₀ (Nat.zero_add _) hJ
      intro i ys news hi hJ' v I oI C oC D m₂ h tk E' hP
      refine turn (fun _ => True) (fun _ => trivial) i ys news hi hJ' v I oI C oC D m₂ h tk E' ?_
      obtain ⟨c, u, h1, h2⟩ := hP
      refine ⟨c, u, ?_, h2⟩
      rw [← h1]
      show l[i]? = l.toArray[i]?
      simp
  cases ha : (S l).cps.all (· < 128)
  · exact wpAny_pyIter_wide ha (go "str_iterator" (fun _ _ => True) (Walks.strWide hh _ (S l) t))
  · exact wpAny_pyIter_ascii ha (go "str_ascii_iterator" (fun _ _ => True) (Walks.strAscii hh _ (S l) t))
end
end Mine

section
namespace Mine
noncomputable def isVowel (c : Nat) : Bool := decide (c = 97) || decide (c = 101) || decide (c = 105) || decide (c = 111) || decide (c = 117)
noncomputable def voiced (l : List Nat) : Bool := l.any isVowel
/-- values that are these texts -/
noncomputable def Texts (zs : List (List Nat)) (ys : List Value) : Prop := Paired (fun z v => ∃ t, v = .str (S z) t) zs ys
theorem Texts.snoc {zs : List (List Nat)} {ys : List Value} {z : List Nat} {t : Tok} (h : Texts zs ys) : Texts (zs ++ [z]) (ys ++ [.str (S z) t]) := Paired.snoc h ⟨t, rfl⟩
theorem Texts.nil : Texts [] [] := Paired.nil
theorem Texts.length {zs : List (List Nat)} {ys : List Value} (h : Texts zs ys) : zs.length = ys.length := Paired.length h
theorem signs_take {l : List Nat} {i k : Nat} (p : Nat → Bool) (hk : l[i]? = some k) : ((l.take (i + 1)).filter p).map (fun c => [c]) = ((l.take i).filter p).map (fun c => [c]) ++ (if p k then [[k]] else []) := by
  rw [List.take_add_one, hk, List.filter_append, List.map_append]
  congr 1
  cases h : p k <;> simp [h]
theorem news_sub {h₀ h : Heap} {L : Addr} {small big : List (Addr × Obj)} (N : News h₀ L h big) (hs : ∀ p ∈ small, p ∈ big) : News h₀ L h small := fun p hp => N p (hs p hp)
theorem S_beq (a b : List Nat) : (S a == S b) = decide (a = b) := by
  by_cases h : a = b
  · subst h; simp
  · rw [decide_eq_false h]
    exact beq_eq_false_iff_ne.mpr fun e => h (S_inj e)
section
variable {prog : Program} {w : World} {A : Around} {E : Value → Shared → Prop} {s : Shared} {h₀ : Heap} {L a b : Addr} {news : List (Addr × Obj)} {ys : List Value} {Q : Value → Shared → Prop}
theorem ne_nil (N : News h₀ L s.heap news) (ha : (a, LCg.lst ys) ∈ news) (hb : (b, listOf #[] 0) ∈ news) (hu : A.units < cLine) (h : Q (.bool (decide (ys ≠ []))) s) : wpAny (model prog w) A (compareOp .NotEq (.ref a) (.ref b)) Q E s := by
  have la : s.heap.IsList a ys.toArray := ⟨_, (N _ ha).1, rfl, _, rfl⟩
  have lb : s.heap.IsList b #[] := ⟨_, (N _ hb).1, rfl, _, rfl⟩
  cases ys with
  | nil =>
    refine SeqAt.RcNeAt.lists (e := fun _ => true) la lb rfl hu (fun j h1 => absurd h1 (Nat.not_lt_zero j)) prog w E Q ?_
    exact h
  | cons y r =>
    refine SeqAt.RcNeAt.lists_lengths la lb ?_ hu prog w E Q ?_
    · simp
    · exact h
theorem eq_nil (N : News h₀ L s.heap news) (ha : (a, LCg.lst ys) ∈ news) (hb : (b, listOf #[] 0) ∈ news) (hu : A.units < cLine) (h : Q (.bool (decide (ys = []))) s) : wpAny (model prog w) A (compareOp .Eq (.ref a) (.ref b)) Q E s := by
  have la : s.heap.IsList a ys.toArray := ⟨_, (N _ ha).1, rfl, _, rfl⟩
  have lb : s.heap.IsList b #[] := ⟨_, (N _ hb).1, rfl, _, rfl⟩
  cases ys with
  | nil =>
    refine SeqAt.RcAt.lists (e := fun _ => true) la lb rfl hu (fun j h1 => absurd h1 (Nat.not_lt_zero j)) prog w E Q ?_
    exact h
  | cons y r =>
    refine SeqAt.RcAt.lists_lengths la lb ?_ hu prog w E Q ?_
    · simp
    · exact h
end
end Mine


namespace Mine
theorem c_law_voiced {w : World} {mean : ExcName → Option Value} {mg mb : Str → Option Value} {dp un : Nat} {gd : Option (List Code)} {cn : Str} {cs : Scope} {a : Addr} {ccd : Value} {cl : List (Str × Addr)} {outer : List Env} {A₀ : Around} {base h₀ : Heap} {L : Addr} {m : Str → Option Value} {news : List (Addr × Obj)} {s : Shared} {Q E : Value → Shared → Prop}
    {l : List Nat} {t : Tok}
    (B : Below A₀ base outer h₀) (F : Fr h₀ L s.heap m) (X : (hd.heap_39 w.params).In h₀) (N : News h₀ L s.heap news) (T : Top hd.view_39 (looseW hd.view_39 [Str.ofString "_law_starts"]) mean mg mb h₀) (hk : cs.kind = .function)
    (hdp : dp + 6 < recursionLimit) (hun : un + 100 < cLine)
    (hl : l.length ≤ 1000)
    (hret : ∀ h' tk', Fr h₀ L h' m → News h₀ L h' news → Q (.bool (voiced l)) { s with heap := h', toks := tk' }) :
    wpAny (model PySem.Challenge.rw_iv0074_01.row.prog w) (ktrTop dp un gd cn cs L a ccd cl outer) (call (.ref 109) [.str (S l) t]) Q E s := by
  have hretx : ∀ x, voiced l = x → ∀ h' tk', Fr h₀ L h' m → News h₀ L h' news → Q (.bool x) { s with heap := h', toks := tk' } := fun x e => e ▸ hret
  w_top off
  k_with_none
  (k_with "eval Constant str" => (k_here; first | (with_reducible refine Mine.const_S Mine.lit_0 ?_) | (with_reducible refine Mine.const_S Mine.lit_1 ?_) | (with_reducible refine Mine.const_S Mine.lit_2 ?_) | (with_reducible refine Mine.const_S Mine.lit_3 ?_) | (with_reducible refine Mine.const_S Mine.lit_4 ?_) | (with_reducible refine Mine.const_S Mine.lit_5 ?_) | (with_reducible refine Mine.const_S Mine.lit_6 ?_) | (with_reducible refine Mine.const_S Mine.lit_7 ?_) | (with_reducible refine Mine.const_S Mine.lit_8 ?_) | (with_reducible refine Mine.const_S Mine.lit_9 ?_) | (with_reducible refine Mine.const_S Mine.lit_10 ?_) | (with_reducible refine Mine.const_S Mine.lit_11 ?_) | (with_reducible refine Mine.const_S Mine.lit_12 ?_) | (with_reducible refine Mine.const_S Mine.lit_13 ?_) | (with_reducible refine Mine.const_S Mine.lit_14 ?_) | (with_reducible refine Mine.const_S Mine.lit_15 ?_) | (with_reducible refine Mine.const_S Mine.lit_16 ?_) | (with_reducible refine Mine.const_S Mine.lit_17 ?_) | (with_reducible refine Mine.const_S Mine.lit_18 ?_) | (with_reducible refine Mine.const_S Mine.lit_19 ?_) | (with_reducible refine Mine.const_S Mine.lit_20 ?_) | (with_reducible refine Mine.const_S Mine.lit_21 ?_) | (with_reducible refine Mine.const_S Mine.lit_22 ?_) | (with_reducible refine Mine.const_S Mine.lit_23 ?_) | (with_reducible refine Mine.const_S Mine.lit_24 ?_) | (with_reducible refine Mine.const_S Mine.lit_25 ?_) | (with_reducible refine Mine.const_S Mine.lit_26 ?_) | (with_reducible refine Mine.const_S Mine.lit_27 ?_) | (with_reducible refine Mine.const_S Mine.lit_28 ?_) | (with_reducible refine Mine.const_S Mine.lit_29 ?_) | (with_reducible refine Mine.const_S Mine.lit_30 ?_) | (with_reducible refine Mine.const_S Mine.lit_31 ?_) | (with_reducible refine Mine.const_S Mine.lit_32 ?_) | (with_reducible refine Mine.const_S Mine.lit_33 ?_) | (with_reducible refine Mine.const_S Mine.lit_34 ?_); intro _ _))
  (k_with "eval IfExp" => (k_here; first | (with_reducible refine Mine.ifexp_S Mine.lit_7 Mine.lit_12 (by decide) (by decide) ?_) | (with_reducible refine Mine.ifexp_S Mine.lit_9 Mine.lit_8 (by decide) (by decide) ?_)))
  (k_with "call builtin:len" => (k_here; (with_reducible show wpAny _ _ (call (Value.builtin "len") [Value.str (Mine.S _) _]) _ _ _); (refine Mine.len_S (by walk_at "OM") ?_); intro _ _))
  (k_with "truthy str" => (k_here; (with_reducible show wpAny _ _ (PySem.truthy (Value.str (Mine.S _) _)) _ _ _); (refine Mine.truthy_S (by walk_at "OM") ?_); intro _))
  (k_with "compareOp LtE str str" => (k_here; (with_reducible refine Mine.le_S ?_)))
  (k_with "compareOp Eq str str" => (k_here; (with_reducible refine Mine.eq_SS ?_)))
  (k_with "compareOp NotEq str str" => (k_here; (with_reducible refine Mine.ne_SS ?_)))
  (k_with "compareOp NotIn str str" => (k_here; (with_reducible refine Mine.notin_S ?_)))
  (k_with "binaryOp Add str str" => (k_here; (with_reducible show wpAny _ _ (binaryOp Operator.Add (Value.str (Mine.S _) _) (Value.str (Mine.S _) _)) _ _ _); (refine Mine.add_S (by walk_at "OM") ?_); intro _ _))
  (k_with "call builtin:str.find" => (k_here; (with_reducible refine Mine.find_SS ?_); intro _ _))
  (k_with "call builtin:str.startswith" => (k_here; (with_reducible refine Mine.starts_SS ?_)))
  (k_with "call builtin:str.endswith" => (k_here; (with_reducible refine Mine.ends_SS ?_)))
  (k_with "call builtin:str.strip" => (k_here; (with_reducible show wpAny _ _ (call (Value.builtin "str.strip") [Value.str (Mine.S _) _]) _ _ _); (refine Mine.strip_SS (by walk_at "OM") ?_); intro _ _))
  (k_with "subscriptTail Name Name str int" => (k_here; (with_reducible show wpAny _ _ (subscriptTail _ _ (Value.str (Mine.S _) _) (Value.int _ _)) _ _ _); (refine Mine.item_SS (by walk_at "OM") (by walk_at "OM") (by walk_at "OM") ?_); intro _ _))
  (k_with "subscriptTail Name Constant str int" => (k_here; (with_reducible show wpAny _ _ (subscriptTail _ _ (Value.str (Mine.S _) _) (Value.int _ _)) _ _ _); (refine Mine.item_SS (by walk_at "OM") (by walk_at "OM") (by walk_at "OM") ?_); intro _ _))
  (k_with "subscriptTail Name BinOp str int" => (k_here; (with_reducible show wpAny _ _ (subscriptTail _ _ (Value.str (Mine.S _) _) (Value.int _ _)) _ _ _); (refine Mine.item_SS (by walk_at "OM") (by walk_at "OM") (by walk_at "OM") ?_); intro _ _))
  (k_with "subscriptTail Name UnaryOp str int" => (k_here; (with_reducible show wpAny _ _ (subscriptTail _ _ (Value.str (Mine.S _) _) (Value.int (-1) _)) _ _ _); (refine Mine.item_SL ?_ (by walk_at "OM") ?_); rotate_left; intro _ _))
  (k_with "subscriptTail Name Name str int" => (k_here; (with_reducible show wpAny _ _ (subscriptTail _ _ (Value.str (Str.ofString _) _) (Value.int _ _)) _ _ _); (refine Mine.item_lit Mine.lit_34 (by (first | omega | exact fmod_lo _ (by decide) | exact fmod_hi _ (by decide) | fail "no bound")) (by (first | omega | exact fmod_lo _ (by decide) | exact fmod_hi _ (by decide) | fail "no bound")) (by decide) ?_); intro _ _))
  (k_with "subscriptTail Name Slice str ref" => (k_here; (with_reducible show wpAny _ _ (subscriptTail _ (Expr.Slice none (some _) none _) (Value.str (Mine.S _) _) _) _ _ _); (with_reducible rename Fr _ _ _ _ => wF); (with_reducible rename News _ _ _ _ => wN); (first | (refine Mine.slice_SS_to wF wN (by walk_at "OM") (by walk_at "OM") ?_) | (refine Mine.slice_SS_neg wF wN (by walk_at "OM") (by walk_at "OM") (by walk_at "OM") ?_)); intro _ _ _ _ _))
  (k_with "subscriptTail Name Slice str ref" => (k_here; (with_reducible show wpAny _ _ (subscriptTail _ (Expr.Slice (some _) none none _) (Value.str (Mine.S _) _) _) _ _ _); (with_reducible rename Fr _ _ _ _ => wF); (with_reducible rename News _ _ _ _ => wN); (refine Mine.slice_SS_from wF wN (by walk_at "OM") (by walk_at "OM") ?_); intro _ _ _ _ _))
  (k_with "subscriptTail Name Slice str ref" => (k_here; (with_reducible show wpAny _ _ (subscriptTail _ (Expr.Slice (some _) (some _) none _) (Value.str (Mine.S _) _) _) _ _ _); (with_reducible rename Fr _ _ _ _ => wF); (with_reducible rename News _ _ _ _ => wN); (refine Mine.slice_SS_mid wF wN (by walk_at "OM") (by walk_at "OM") (by walk_at "OM") (by walk_at "OM") ?_); intro _ _ _ _ _))
  (k_with "subscriptTail Name Slice str ref" => (k_here; (with_reducible show wpAny _ _ (subscriptTail _ (Expr.Slice none none (some _) _) (Value.str (Mine.S _) _) _) _ _ _); (with_reducible rename Fr _ _ _ _ => wF); (with_reducible rename News _ _ _ _ => wN); (refine Mine.slice_SS_rev wF wN (by walk_at "OM") ?_); intro _ _ _ _ _))
  (k_with "subscriptTail BinOp Slice str ref" => (k_here; (with_reducible show wpAny _ _ (subscriptTail _ (Expr.Slice none (some _) none _) (Value.str (Mine.S _) _) _) _ _ _); (with_reducible rename Fr _ _ _ _ => wF); (with_reducible rename News _ _ _ _ => wN); (first | (refine Mine.slice_SS_to wF wN (by walk_at "OM") (by walk_at "OM") ?_) | (refine Mine.slice_SS_neg wF wN (by walk_at "OM") (by walk_at "OM") (by walk_at "OM") ?_)); intro _ _ _ _ _))
  (k_with "subscriptTail BinOp Slice str ref" => (k_here; (with_reducible show wpAny _ _ (subscriptTail _ (Expr.Slice (some _) none none _) (Value.str (Mine.S _) _) _) _ _ _); (with_reducible rename Fr _ _ _ _ => wF); (with_reducible rename News _ _ _ _ => wN); (refine Mine.slice_SS_from wF wN (by walk_at "OM") (by walk_at "OM") ?_); intro _ _ _ _ _))
  (k_with "subscriptTail BinOp Slice str ref" => (k_here; (with_reducible show wpAny _ _ (subscriptTail _ (Expr.Slice (some _) (some _) none _) (Value.str (Mine.S _) _) _) _ _ _); (with_reducible rename Fr _ _ _ _ => wF); (with_reducible rename News _ _ _ _ => wN); (refine Mine.slice_SS_mid wF wN (by walk_at "OM") (by walk_at "OM") (by walk_at "OM") (by walk_at "OM") ?_); intro _ _ _ _ _))
  (k_with "subscriptTail BinOp Slice str ref" => (k_here; (with_reducible show wpAny _ _ (subscriptTail _ (Expr.Slice none none (some _) _) (Value.str (Mine.S _) _) _) _ _ _); (with_reducible rename Fr _ _ _ _ => wF); (with_reducible rename News _ _ _ _ => wN); (refine Mine.slice_SS_rev wF wN (by walk_at "OM") ?_); intro _ _ _ _ _))
  (k_with "pyIter ref" => ((with_reducible show wpAny _ _ (pyIter (Value.ref _)) (fun _ _ => LoopAtV _ _ _ _ _ _ _ _ _ _ _) _ _); refine Mine.Halt.go ?_))
  (k_with "pyIter str" => ((with_reducible show wpAny _ _ (pyIter (Value.str _ _)) (fun _ _ => LoopAtV _ _ _ _ _ _ _ _ _ _ _) _ _); refine Mine.Halt.go ?_))
  (k_with "exec For Name Name cons nil" => (k_here; (rename Fr _ _ _ _ => wlF); (with_unfolding_all refine For_invVF wlF (by exact rfl) (by exact rfl) ?_; k_whole)))
  (k_with "exec For Name Call cons nil" => (k_here; (rename Fr _ _ _ _ => wlF); (with_unfolding_all refine For_invVF wlF (by exact rfl) (by exact rfl) ?_; k_whole)))
  (k_with "exec For Name Subscript cons nil" => (k_here; (rename Fr _ _ _ _ => wlF); (with_unfolding_all refine For_invVF wlF (by exact rfl) (by exact rfl) ?_; k_whole)))
  (k_with "exec For Name Tuple cons nil" => (k_here; (rename Fr _ _ _ _ => wlF); (with_unfolding_all refine For_invVF wlF (by exact rfl) (by exact rfl) ?_; k_whole)))
  (k_with "KswEnd" => (refine Mine.Halt.go ?_))
  (k_with "ExitPost" => (refine Mine.Halt.go ?_))
  (k_with "LcEnd" => (refine Mine.Halt.go ?_))
  (k_with "LcBrk" => (refine Mine.Halt.go ?_))
  (k_with "LcPost" => (dsimp only [Mine.LcPost]))
  (k_with "eval ListComp" => (k_here; first | ((with_reducible show wpAny _ _ (eval (Expr.ListComp _ [⟨_, _, [], _⟩] _ _) _) _ _ _); k_dflt (refine Mine.comp_EU (by with_unfolding_all rfl) (by decide) (by rfl) (by decide) (by rfl) ?_)) | ((with_reducible show wpAny _ _ (eval (Expr.ListComp _ [⟨_, _, [_], _⟩] _ _) _) _ _ _); k_dflt (refine Mine.comp_ET (by with_unfolding_all rfl) (by decide) (by rfl) (by decide) (by rfl) ?_))))
  (k_with "exec Assign cons ListComp" => (k_here; first | ((with_reducible show wpAny _ _ (exec (Stmt.Assign _ (Expr.ListComp _ [⟨_, _, [], _⟩] _ _) _) _) _ _ _); k_dflt (refine Mine.comp_AU (by with_unfolding_all rfl) (by with_unfolding_all rfl) (by decide) (by rfl) (by decide) (by rfl) (by rfl) (by rfl) ?_)) | ((with_reducible show wpAny _ _ (exec (Stmt.Assign _ (Expr.ListComp _ [⟨_, _, [_], _⟩] _ _) _) _) _ _ _); k_dflt (refine Mine.comp_AT (by with_unfolding_all rfl) (by with_unfolding_all rfl) (by decide) (by rfl) (by decide) (by rfl) (by rfl) (by rfl) ?_))))
  (k_with "pyIter ref" => (first | ((with_reducible show wpAny _ _ (pyIter (Value.ref _)) (Mine.CompAtT _ _ _ _ _ _ _ _ _ _) _ _); refine Mine.Halt.go ?_) | ((with_reducible show wpAny _ _ (pyIter (Value.ref _)) (Mine.CompAtU _ _ _ _ _ _ _ _ _) _ _); refine Mine.Halt.go ?_)))
  (k_with "pyIter str" => (first | ((with_reducible show wpAny _ _ (pyIter (Value.str _ _)) (Mine.CompAtT _ _ _ _ _ _ _ _ _ _) _ _); refine Mine.Halt.go ?_) | ((with_reducible show wpAny _ _ (pyIter (Value.str _ _)) (Mine.CompAtU _ _ _ _ _ _ _ _ _) _ _); refine Mine.Halt.go ?_)))
  (k_with "TestPost" => (refine And.intro (fun whb => ?_) (fun whb => ?_) <;> (try (exact absurd whb (by decide)))))
  (k_with "CompEnd" => (refine Mine.Halt.go ?_))
  (k_with "FinE" => (refine Mine.Halt.go ?_))
  (k_with "FinA" => (refine Mine.Halt.go ?_))
  (k_with "compareOp NotEq ref ref" => (k_here; refine Mine.ne_nil (by k_asm) (by k_mem) (by k_mem) (by ktr_units) ?_))
  (k_with "compareOp Eq ref ref" => (k_here; refine Mine.eq_nil (by k_asm) (by k_mem) (by k_mem) (by ktr_units) ?_))
  revert X
  k_fill
  intro X
  refine wpAny_call ?_
  k_dflt cell_enter
  rename_i g' L' h' FG' F' N' B' X' T'
  replace F' := fr_norm [(Str.ofString "word", .str (S l) t)] F' rfl
  repeat' (first | (k_unfold; (try dsimp only)) | ((fail_if_success (with_reducible show Mine.Halt _)); k_end; wrow_close) | walk1 | (dsimp only; walk1) | (leave1; walk_say "STEP leave1"; try dsimp only) | fail "no step")
  refine Halt.out ?_
  refine' text_compT (fun i ys nw => news = nw ∧ Texts (((l.take i).filter isVowel).map (fun c => [c])) ys) ?hh ?hL ?F₁ ?N₁ ?hsz ?hJ ?turn ?done
  case hh => exact rfl
  case hL => exact rfl
  case F₁ => assumption
  case N₁ => assumption
  case hsz => rw [sizeLine_eq]; omega
  case hJ => exact ⟨rfl, Texts.nil⟩
  case turn =>
    clear F' N'
    intro S9 hS9 i ys nw hi hJ9 v I oI C oC D m9 h9 tk9 E9 hV9 hC9 hx9 F' N' hoff hne
    try k_fold
    obtain ⟨rfl, hys⟩ := hJ9
    obtain ⟨k, tk, hk, rfl⟩ := hV9
    repeat' (first | (k_unfold; (try dsimp only)) | ((fail_if_success (with_reducible show Mine.Halt _)); k_end; wrow_close) | walk1 | (dsimp only; walk1) | (leave1; walk_say "STEP leave1"; try dsimp only) | fail "no step")
    all_goals (
      refine Halt.out (LCg.CompEnd.intro (by assumption) (by assumption) news (by intro p hp; (try simp only [List.mem_append, List.mem_cons, List.not_mem_nil, or_false, or_assoc] at hp); first | (simp [hp]; done) | (with_reducible refine Or.elim hp (fun hp => ?_) (fun hp => ?_) <;> (first | (simp [hp]; done) | (with_reducible refine Or.elim hp (fun hp => ?_) (fun hp => ?_) <;> (first | (simp [hp]; done) | (with_reducible refine Or.elim hp (fun hp => ?_) (fun hp => ?_) <;> (first | (simp [hp]; done) | (with_reducible refine Or.elim hp (fun hp => ?_) (fun hp => ?_) <;> ((simp [hp]; done)))))))))) hoff (hS9 _) ⟨rfl, ?_⟩)
      (with_reducible rename (List.any _ _ = _) => hb9)
      have hb : isVowel k = [S [97], S [101], S [105], S [111], S [117]].any fun x => x == S [k] := by
        simp only [List.any_cons, List.any_nil, S_beq, isVowel, List.cons.injEq, and_true, Bool.or_false, Bool.or_assoc, eq_comm (a := k)]
      rw [hb9] at hb
      rw [signs_take isVowel hk, hb]
      first | exact Texts.snoc hys | simpa using hys)
  case done =>
    clear F' N'
    rintro h9 ys nw ⟨rfl, hys⟩
    intro D h tk F' N' hoff
    (try dsimp only)
    (try k_fold)
    repeat' (first | (k_unfold; (try dsimp only)) | ((fail_if_success (with_reducible show Mine.Halt _)); k_end; wrow_close) | walk1 | (dsimp only; walk1) | (leave1; walk_say "STEP leave1"; try dsimp only) | fail "no step")

    refine hretx _ ?_ _ _ (by assumption) (by first | assumption | exact Mine.news_sub (by assumption) (by intro p hp; (try simp only [List.mem_append, List.mem_cons, List.not_mem_nil, or_false, or_assoc] at hp); first | (simp [hp]; done) | (with_reducible refine Or.elim hp (fun hp => ?_) (fun hp => ?_) <;> (first | (simp [hp]; done) | (with_reducible refine Or.elim hp (fun hp => ?_) (fun hp => ?_) <;> (first | (simp [hp]; done) | (with_reducible refine Or.elim hp (fun hp => ?_) (fun hp => ?_) <;> (first | (simp [hp]; done) | (with_reducible refine Or.elim hp (fun hp => ?_) (fun hp => ?_) <;> ((simp [hp]; done)))))))))))
    rw [List.take_length] at hys
    have hlen := hys.length
    cases ys with
    | nil =>
      have e : l.filter isVowel = [] := by simpa using hlen
      simp only [ne_eq, not_true, decide_false]
      unfold voiced
      rw [List.any_eq_false]
      intro x hx
      have := List.filter_eq_nil_iff.mp e x hx
      simpa using this
    | cons y r =>
      have e : l.filter isVowel ≠ [] := by intro e; rw [e] at hlen; simp at hlen
      obtain ⟨x, hx⟩ := List.exists_mem_of_ne_nil _ e
      obtain ⟨hx1, hx2⟩ := List.mem_filter.mp hx
      have : voiced l = true := List.any_eq_true.mpr ⟨x, hx1, hx2⟩
      simpa using this
end Mine

end
section
namespace Mine
noncomputable def starts : List (List Nat) := [[107, 105, 108, 111], [109, 105, 99, 114, 111], [109, 105, 108, 108, 105], [105, 110, 116, 114, 97], [117, 108, 116, 114, 97], [109, 101, 103, 97], [110, 97, 110, 111], [112, 105, 99, 111], [112, 115, 101, 117, 100, 111]]
noncomputable def bareOf : List (List Nat) → List Nat → List Nat
  | [], l => l
  | s :: r, l => if s.isPrefixOf l then l.drop s.length else bareOf r l
/-- a word without the first of the nine prefixes that opens it -/
noncomputable def bare (l : List Nat) : List Nat := bareOf starts l
theorem bareOf_step {zs : List (List Nat)} {i : Nat} {z l : List Nat} (h : zs[i]? = some z) : bareOf (zs.drop i) l = if z.isPrefixOf l then l.drop z.length else bareOf (zs.drop (i + 1)) l := by
  obtain ⟨hi, e⟩ := List.getElem?_eq_some_iff.mp h
  rw [List.drop_eq_getElem_cons hi, e]
  rfl
theorem prefix_take (z l : List Nat) : z.isPrefixOf l = decide (l.take z.length = z) := by
  rw [Bool.eq_iff_iff, List.isPrefixOf_iff_prefix, decide_eq_true_eq, List.prefix_iff_eq_take, eq_comm]
theorem Texts.at {zs : List (List Nat)} {ys : List Value} {i : Nat} {v : Value} (h : Texts zs ys) (hv : ys[i]? = some v) : ∃ z t, zs[i]? = some z ∧ v = .str (S z) t := by
  unfold Texts at h
  induction h generalizing i with
  | nil => simp at hv
  | cons a r ih =>
    cases i with
    | zero =>
      obtain ⟨t, e⟩ := a
      simp at hv
      exact ⟨_, t, by simp, hv ▸ e⟩
    | succ i =>
      obtain ⟨z, t, h1, h2⟩ := ih (by simpa using hv)
      exact ⟨z, t, by simpa using h1, h2⟩
theorem starts_at {w : World} {h : Heap} (X : (hd.heap_39 w.params).In h) : ∃ vs, h.IsList 83 vs.toArray ∧ Texts starts vs :=
  ⟨_, ⟨_, X 83 _ rfl, rfl, _, rfl⟩, .cons ⟨_, congrArg (Value.str · _) lit_13⟩ (.cons ⟨_, congrArg (Value.str · _) lit_14⟩ (.cons ⟨_, congrArg (Value.str · _) lit_15⟩ (.cons ⟨_, congrArg (Value.str · _) lit_16⟩ (.cons ⟨_, congrArg (Value.str · _) lit_17⟩ (.cons ⟨_, congrArg (Value.str · _) lit_18⟩ (.cons ⟨_, congrArg (Value.str · _) lit_19⟩ (.cons ⟨_, congrArg (Value.str · _) lit_20⟩ (.cons ⟨_, congrArg (Value.str · _) lit_21⟩ .nil))))))))⟩
theorem starts_len : ∀ z ∈ starts, z.length ≤ 6 := by decide
end Mine

namespace Mine
theorem c_law_bare {w : World} {mean : ExcName → Option Value} {mg mb : Str → Option Value} {dp un : Nat} {gd : Option (List Code)} {cn : Str} {cs : Scope} {a : Addr} {ccd : Value} {cl : List (Str × Addr)} {outer : List Env} {A₀ : Around} {base h₀ : Heap} {L : Addr} {m : Str → Option Value} {news : List (Addr × Obj)} {s : Shared} {Q E : Value → Shared → Prop}
    {l : List Nat} {t : Tok}
    (B : Below A₀ base outer h₀) (F : Fr h₀ L s.heap m) (X : (hd.heap_39 w.params).In h₀) (N : News h₀ L s.heap news) (T : Top hd.view_39 (looseW hd.view_39 [Str.ofString "_law_starts"]) mean mg mb h₀) (hk : cs.kind = .function)
    (hdp : dp + 6 < recursionLimit) (hun : un + 100 < cLine)
    (hl : l.length ≤ 1000)
    (hret : ∀ t h' tk', Fr h₀ L h' m → News h₀ L h' news → Q (.str (S (bare l)) t) { s with heap := h', toks := tk' }) :
    wpAny (model PySem.Challenge.rw_iv0074_01.row.prog w) (ktrTop dp un gd cn cs L a ccd cl outer) (call (.ref 116) [.str (S l) t]) Q E s := by
  have hretx : ∀ x, bare l = x → ∀ t h' tk', Fr h₀ L h' m → News h₀ L h' news → Q (.str (S x) t) { s with heap := h', toks := tk' } := fun x e => e ▸ hret
  w_top off
  k_with_none
  (k_with "eval Constant str" => (k_here; first | (with_reducible refine Mine.const_S Mine.lit_0 ?_) | (with_reducible refine Mine.const_S Mine.lit_1 ?_) | (with_reducible refine Mine.const_S Mine.lit_2 ?_) | (with_reducible refine Mine.const_S Mine.lit_3 ?_) | (with_reducible refine Mine.const_S Mine.lit_4 ?_) | (with_reducible refine Mine.const_S Mine.lit_5 ?_) | (with_reducible refine Mine.const_S Mine.lit_6 ?_) | (with_reducible refine Mine.const_S Mine.lit_7 ?_) | (with_reducible refine Mine.const_S Mine.lit_8 ?_) | (with_reducible refine Mine.const_S Mine.lit_9 ?_) | (with_reducible refine Mine.const_S Mine.lit_10 ?_) | (with_reducible refine Mine.const_S Mine.lit_11 ?_) | (with_reducible refine Mine.const_S Mine.lit_12 ?_) | (with_reducible refine Mine.const_S Mine.lit_13 ?_) | (with_reducible refine Mine.const_S Mine.lit_14 ?_) | (with_reducible refine Mine.const_S Mine.lit_15 ?_) | (with_reducible refine Mine.const_S Mine.lit_16 ?_) | (with_reducible refine Mine.const_S Mine.lit_17 ?_) | (with_reducible refine Mine.const_S Mine.lit_18 ?_) | (with_reducible refine Mine.const_S Mine.lit_19 ?_) | (with_reducible refine Mine.const_S Mine.lit_20 ?_) | (with_reducible refine Mine.const_S Mine.lit_21 ?_) | (with_reducible refine Mine.const_S Mine.lit_22 ?_) | (with_reducible refine Mine.const_S Mine.lit_23 ?_) | (with_reducible refine Mine.const_S Mine.lit_24 ?_) | (with_reducible refine Mine.const_S Mine.lit_25 ?_) | (with_reducible refine Mine.const_S Mine.lit_26 ?_) | (with_reducible refine Mine.const_S Mine.lit_27 ?_) | (with_reducible refine Mine.const_S Mine.lit_28 ?_) | (with_reducible refine Mine.const_S Mine.lit_29 ?_) | (with_reducible refine Mine.const_S Mine.lit_30 ?_) | (with_reducible refine Mine.const_S Mine.lit_31 ?_) | (with_reducible refine Mine.const_S Mine.lit_32 ?_) | (with_reducible refine Mine.const_S Mine.lit_33 ?_) | (with_reducible refine Mine.const_S Mine.lit_34 ?_); intro _ _))
  (k_with "eval IfExp" => (k_here; first | (with_reducible refine Mine.ifexp_S Mine.lit_7 Mine.lit_12 (by decide) (by decide) ?_) | (with_reducible refine Mine.ifexp_S Mine.lit_9 Mine.lit_8 (by decide) (by decide) ?_)))
  (k_with "call builtin:len" => (k_here; (with_reducible show wpAny _ _ (call (Value.builtin "len") [Value.str (Mine.S _) _]) _ _ _); (refine Mine.len_S (by walk_at "OM") ?_); intro _ _))
  (k_with "truthy str" => (k_here; (with_reducible show wpAny _ _ (PySem.truthy (Value.str (Mine.S _) _)) _ _ _); (refine Mine.truthy_S (by walk_at "OM") ?_); intro _))
  (k_with "compareOp LtE str str" => (k_here; (with_reducible refine Mine.le_S ?_)))
  (k_with "compareOp Eq str str" => (k_here; (with_reducible refine Mine.eq_SS ?_)))
  (k_with "compareOp NotEq str str" => (k_here; (with_reducible refine Mine.ne_SS ?_)))
  (k_with "compareOp NotIn str str" => (k_here; (with_reducible refine Mine.notin_S ?_)))
  (k_with "binaryOp Add str str" => (k_here; (with_reducible show wpAny _ _ (binaryOp Operator.Add (Value.str (Mine.S _) _) (Value.str (Mine.S _) _)) _ _ _); (refine Mine.add_S (by walk_at "OM") ?_); intro _ _))
  (k_with "call builtin:str.find" => (k_here; (with_reducible refine Mine.find_SS ?_); intro _ _))
  (k_with "call builtin:str.startswith" => (k_here; (with_reducible refine Mine.starts_SS ?_)))
  (k_with "call builtin:str.endswith" => (k_here; (with_reducible refine Mine.ends_SS ?_)))
  (k_with "call builtin:str.strip" => (k_here; (with_reducible show wpAny _ _ (call (Value.builtin "str.strip") [Value.str (Mine.S _) _]) _ _ _); (refine Mine.strip_SS (by walk_at "OM") ?_); intro _ _))
  (k_with "subscriptTail Name Name str int" => (k_here; (with_reducible show wpAny _ _ (subscriptTail _ _ (Value.str (Mine.S _) _) (Value.int _ _)) _ _ _); (refine Mine.item_SS (by walk_at "OM") (by walk_at "OM") (by walk_at "OM") ?_); intro _ _))
  (k_with "subscriptTail Name Constant str int" => (k_here; (with_reducible show wpAny _ _ (subscriptTail _ _ (Value.str (Mine.S _) _) (Value.int _ _)) _ _ _); (refine Mine.item_SS (by walk_at "OM") (by walk_at "OM") (by walk_at "OM") ?_); intro _ _))
  (k_with "subscriptTail Name BinOp str int" => (k_here; (with_reducible show wpAny _ _ (subscriptTail _ _ (Value.str (Mine.S _) _) (Value.int _ _)) _ _ _); (refine Mine.item_SS (by walk_at "OM") (by walk_at "OM") (by walk_at "OM") ?_); intro _ _))
  (k_with "subscriptTail Name UnaryOp str int" => (k_here; (with_reducible show wpAny _ _ (subscriptTail _ _ (Value.str (Mine.S _) _) (Value.int (-1) _)) _ _ _); (refine Mine.item_SL ?_ (by walk_at "OM") ?_); rotate_left; intro _ _))
  (k_with "subscriptTail Name Name str int" => (k_here; (with_reducible show wpAny _ _ (subscriptTail _ _ (Value.str (Str.ofString _) _) (Value.int _ _)) _ _ _); (refine Mine.item_lit Mine.lit_34 (by (first | omega | exact fmod_lo _ (by decide) | exact fmod_hi _ (by decide) | fail "no bound")) (by (first | omega | exact fmod_lo _ (by decide) | exact fmod_hi _ (by decide) | fail "no bound")) (by decide) ?_); intro _ _))
  (k_with "subscriptTail Name Slice str ref" => (k_here; (with_reducible show wpAny _ _ (subscriptTail _ (Expr.Slice none (some _) none _) (Value.str (Mine.S _) _) _) _ _ _); (with_reducible rename Fr _ _ _ _ => wF); (with_reducible rename News _ _ _ _ => wN); (first | (refine Mine.slice_SS_to wF wN (by walk_at "OM") (by walk_at "OM") ?_) | (refine Mine.slice_SS_neg wF wN (by walk_at "OM") (by walk_at "OM") (by walk_at "OM") ?_)); intro _ _ _ _ _))
  (k_with "subscriptTail Name Slice str ref" => (k_here; (with_reducible show wpAny _ _ (subscriptTail _ (Expr.Slice (some _) none none _) (Value.str (Mine.S _) _) _) _ _ _); (with_reducible rename Fr _ _ _ _ => wF); (with_reducible rename News _ _ _ _ => wN); (refine Mine.slice_SS_from wF wN (by walk_at "OM") (by walk_at "OM") ?_); intro _ _ _ _ _))
  (k_with "subscriptTail Name Slice str ref" => (k_here; (with_reducible show wpAny _ _ (subscriptTail _ (Expr.Slice (some _) (some _) none _) (Value.str (Mine.S _) _) _) _ _ _); (with_reducible rename Fr _ _ _ _ => wF); (with_reducible rename News _ _ _ _ => wN); (refine Mine.slice_SS_mid wF wN (by walk_at "OM") (by walk_at "OM") (by walk_at "OM") (by walk_at "OM") ?_); intro _ _ _ _ _))
  (k_with "subscriptTail Name Slice str ref" => (k_here; (with_reducible show wpAny _ _ (subscriptTail _ (Expr.Slice none none (some _) _) (Value.str (Mine.S _) _) _) _ _ _); (with_reducible rename Fr _ _ _ _ => wF); (with_reducible rename News _ _ _ _ => wN); (refine Mine.slice_SS_rev wF wN (by walk_at "OM") ?_); intro _ _ _ _ _))
  (k_with "subscriptTail BinOp Slice str ref" => (k_here; (with_reducible show wpAny _ _ (subscriptTail _ (Expr.Slice none (some _) none _) (Value.str (Mine.S _) _) _) _ _ _); (with_reducible rename Fr _ _ _ _ => wF); (with_reducible rename News _ _ _ _ => wN); (first | (refine Mine.slice_SS_to wF wN (by walk_at "OM") (by walk_at "OM") ?_) | (refine Mine.slice_SS_neg wF wN (by walk_at "OM") (by walk_at "OM") (by walk_at "OM") ?_)); intro _ _ _ _ _))
  (k_with "subscriptTail BinOp Slice str ref" => (k_here; (with_reducible show wpAny _ _ (subscriptTail _ (Expr.Slice (some _) none none _) (Value.str (Mine.S _) _) _) _ _ _); (with_reducible rename Fr _ _ _ _ => wF); (with_reducible rename News _ _ _ _ => wN); (refine Mine.slice_SS_from wF wN (by walk_at "OM") (by walk_at "OM") ?_); intro _ _ _ _ _))
  (k_with "subscriptTail BinOp Slice str ref" => (k_here; (with_reducible show wpAny _ _ (subscriptTail _ (Expr.Slice (some _) (some _) none _) (Value.str (Mine.S _) _) _) _ _ _); (with_reducible rename Fr _ _ _ _ => wF); (with_reducible rename News _ _ _ _ => wN); (refine Mine.slice_SS_mid wF wN (by walk_at "OM") (by walk_at "OM") (by walk_at "OM") (by walk_at "OM") ?_); intro _ _ _ _ _))
  (k_with "subscriptTail BinOp Slice str ref" => (k_here; (with_reducible show wpAny _ _ (subscriptTail _ (Expr.Slice none none (some _) _) (Value.str (Mine.S _) _) _) _ _ _); (with_reducible rename Fr _ _ _ _ => wF); (with_reducible rename News _ _ _ _ => wN); (refine Mine.slice_SS_rev wF wN (by walk_at "OM") ?_); intro _ _ _ _ _))
  (k_with "pyIter ref" => ((with_reducible show wpAny _ _ (pyIter (Value.ref _)) (fun _ _ => LoopAtV _ _ _ _ _ _ _ _ _ _ _) _ _); refine Mine.Halt.go ?_))
  (k_with "pyIter str" => ((with_reducible show wpAny _ _ (pyIter (Value.str _ _)) (fun _ _ => LoopAtV _ _ _ _ _ _ _ _ _ _ _) _ _); refine Mine.Halt.go ?_))
  (k_with "exec For Name Name cons nil" => (k_here; (rename Fr _ _ _ _ => wlF); (with_unfolding_all refine For_invVF wlF (by exact rfl) (by exact rfl) ?_; k_whole)))
  (k_with "exec For Name Call cons nil" => (k_here; (rename Fr _ _ _ _ => wlF); (with_unfolding_all refine For_invVF wlF (by exact rfl) (by exact rfl) ?_; k_whole)))
  (k_with "exec For Name Subscript cons nil" => (k_here; (rename Fr _ _ _ _ => wlF); (with_unfolding_all refine For_invVF wlF (by exact rfl) (by exact rfl) ?_; k_whole)))
  (k_with "exec For Name Tuple cons nil" => (k_here; (rename Fr _ _ _ _ => wlF); (with_unfolding_all refine For_invVF wlF (by exact rfl) (by exact rfl) ?_; k_whole)))
  (k_with "KswEnd" => (refine Mine.Halt.go ?_))
  (k_with "ExitPost" => (refine Mine.Halt.go ?_))
  (k_with "LcEnd" => (refine Mine.Halt.go ?_))
  (k_with "LcBrk" => (refine Mine.Halt.go ?_))
  (k_with "LcPost" => (dsimp only [Mine.LcPost]))
  (k_with "eval ListComp" => (k_here; first | ((with_reducible show wpAny _ _ (eval (Expr.ListComp _ [⟨_, _, [], _⟩] _ _) _) _ _ _); k_dflt (refine Mine.comp_EU (by with_unfolding_all rfl) (by decide) (by rfl) (by decide) (by rfl) ?_)) | ((with_reducible show wpAny _ _ (eval (Expr.ListComp _ [⟨_, _, [_], _⟩] _ _) _) _ _ _); k_dflt (refine Mine.comp_ET (by with_unfolding_all rfl) (by decide) (by rfl) (by decide) (by rfl) ?_))))
  (k_with "exec Assign cons ListComp" => (k_here; first | ((with_reducible show wpAny _ _ (exec (Stmt.Assign _ (Expr.ListComp _ [⟨_, _, [], _⟩] _ _) _) _) _ _ _); k_dflt (refine Mine.comp_AU (by with_unfolding_all rfl) (by with_unfolding_all rfl) (by decide) (by rfl) (by decide) (by rfl) (by rfl) (by rfl) ?_)) | ((with_reducible show wpAny _ _ (exec (Stmt.Assign _ (Expr.ListComp _ [⟨_, _, [_], _⟩] _ _) _) _) _ _ _); k_dflt (refine Mine.comp_AT (by with_unfolding_all rfl) (by with_unfolding_all rfl) (by decide) (by rfl) (by decide) (by rfl) (by rfl) (by rfl) ?_))))
  (k_with "pyIter ref" => (first | ((with_reducible show wpAny _ _ (pyIter (Value.ref _)) (Mine.CompAtT _ _ _ _ _ _ _ _ _ _) _ _); refine Mine.Halt.go ?_) | ((with_reducible show wpAny _ _ (pyIter (Value.ref _)) (Mine.CompAtU _ _ _ _ _ _ _ _ _) _ _); refine Mine.Halt.go ?_)))
  (k_with "pyIter str" => (first | ((with_reducible show wpAny _ _ (pyIter (Value.str _ _)) (Mine.CompAtT _ _ _ _ _ _ _ _ _ _) _ _); refine Mine.Halt.go ?_) | ((with_reducible show wpAny _ _ (pyIter (Value.str _ _)) (Mine.CompAtU _ _ _ _ _ _ _ _ _) _ _); refine Mine.Halt.go ?_)))
  (k_with "TestPost" => (refine And.intro (fun whb => ?_) (fun whb => ?_) <;> (try (exact absurd whb (by decide)))))
  (k_with "CompEnd" => (refine Mine.Halt.go ?_))
  (k_with "FinE" => (refine Mine.Halt.go ?_))
  (k_with "FinA" => (refine Mine.Halt.go ?_))
  (k_with "compareOp NotEq ref ref" => (k_here; refine Mine.ne_nil (by k_asm) (by k_mem) (by k_mem) (by ktr_units) ?_))
  (k_with "compareOp Eq ref ref" => (k_here; refine Mine.eq_nil (by k_asm) (by k_mem) (by k_mem) (by ktr_units) ?_))
  revert X
  k_fill
  intro X
  refine wpAny_call ?_
  k_dflt cell_enter
  rename_i g' L' h' FG' F' N' B' X' T'
  replace F' := fr_norm [(Str.ofString "word", .str (S l) t)] F' rfl
  repeat' (first | (k_unfold; (try dsimp only)) | ((fail_if_success (with_reducible show Mine.Halt _)); k_end; wrow_close) | walk1 | (dsimp only; walk1) | (leave1; walk_say "STEP leave1"; try dsimp only) | fail "no step")
  obtain ⟨vs, hvs, hts⟩ := starts_at X'
  refine Halt.out ?_
  refine' list_cut0 (σ := Unit) (fun _ => news) (fun _ => []) [] (fun i _ => bare l = bareOf (starts.drop i) l) (fun _ => False) () rfl hvs (by assumption) N' ?kk ?start ?turn ?brk ?done
  case kk => kst_all
  case start => rfl
  case brk => intro c u h tk hf; exact hf.elim
  case turn =>
    clear N'
    rintro i v ⟨⟩ u h tk own I hi hv hj hoff hI F' N'
    dsimp only at hj F' N' ⊢
    obtain ⟨z, t9, hz, rfl⟩ := hts.at hv
    have hz6 : z.length ≤ 6 := starts_len z (List.mem_of_getElem? hz)
    rw [bareOf_step hz, prefix_take] at hj
    try k_fold
    repeat' (first | (k_unfold; (try dsimp only)) | ((fail_if_success (with_reducible show Mine.Halt _)); k_end; wrow_close) | walk1 | (dsimp only; walk1) | (leave1; walk_say "STEP leave1"; try dsimp only) | fail "no step")
    all_goals first
      | (refine Halt.out (lc_end () (by assumption) (by assumption) (by intro p hp; (try simp only [List.mem_append, List.mem_cons, List.not_mem_nil, or_false, or_assoc] at hp); first | (simp [hp]; done) | (with_reducible refine Or.elim hp (fun hp => ?_) (fun hp => ?_) <;> (first | (simp [hp]; done) | (with_reducible refine Or.elim hp (fun hp => ?_) (fun hp => ?_) <;> (first | (simp [hp]; done) | (with_reducible refine Or.elim hp (fun hp => ?_) (fun hp => ?_) <;> (first | (simp [hp]; done) | (with_reducible refine Or.elim hp (fun hp => ?_) (fun hp => ?_) <;> ((simp [hp]; done)))))))))) (by intro p hp; (try simp only [List.mem_append, List.mem_cons, List.not_mem_nil, or_false, or_assoc] at hp); first | (simp [hp]; done) | (with_reducible refine Or.elim hp (fun hp => ?_) (fun hp => ?_) <;> (first | (simp [hp]; done) | (with_reducible refine Or.elim hp (fun hp => ?_) (fun hp => ?_) <;> (first | (simp [hp]; done) | (with_reducible refine Or.elim hp (fun hp => ?_) (fun hp => ?_) <;> (first | (simp [hp]; done) | (with_reducible refine Or.elim hp (fun hp => ?_) (fun hp => ?_) <;> ((simp [hp]; done)))))))))) (fun p hp hm => hoff p hp (List.mem_singleton.mp hm)) (by kst_all) (by first | (intro z h1 h2 h3; (try dsimp only [kstB]); (repeat (refine Eq.trans (if_neg (by (first | exact h1 | exact Mine.off_stored h3 (by decide +kernel) | ((fail_if_success (exact Mine.not_stored h3)); exact Mine.sub_stored h3 (by decide +kernel)) | exact h2 _ (.head _) | exact h2 _ (.tail _ (.head _)) | exact h2 _ (.tail _ (.tail _ (.head _))) | exact h2 _ (.tail _ (.tail _ (.tail _ (.head _))))))) ?_)); first | exact if_neg (Mine.not_stored h3) | exact rfl) | (intro z h1 h2 h3; (try simp only [List.forall_mem_cons, List.not_mem_nil, false_implies, implies_true, and_true, ne_eq] at h2); (try simp only [List.contains_cons, List.contains_nil, Bool.or_false, Bool.or_eq_false_iff, beq_eq_false_iff_ne, ne_eq] at h3); simp [kstB, h1, h2, h3])) ?_)
         simp only [Int.toNat_natCast] at *
         rw [if_neg (by simp only [decide_eq_true_eq]; assumption)] at hj
         exact hj)
      | (simp only [Int.toNat_natCast] at *
         refine hretx _ ?_ _ _ _ (by assumption) (by first | assumption | exact Mine.news_sub (by assumption) (by intro p hp; (try simp only [List.mem_append, List.mem_cons, List.not_mem_nil, or_false, or_assoc] at hp); first | (simp [hp]; done) | (with_reducible refine Or.elim hp (fun hp => ?_) (fun hp => ?_) <;> (first | (simp [hp]; done) | (with_reducible refine Or.elim hp (fun hp => ?_) (fun hp => ?_) <;> (first | (simp [hp]; done) | (with_reducible refine Or.elim hp (fun hp => ?_) (fun hp => ?_) <;> (first | (simp [hp]; done) | (with_reducible refine Or.elim hp (fun hp => ?_) (fun hp => ?_) <;> ((simp [hp]; done)))))))))))
         rw [if_pos (by simp only [decide_eq_true_eq]; assumption)] at hj
         exact hj)
  case done =>
    clear N'
    rintro ⟨⟩ u h tk hj F' N'
    dsimp only at hj F' N' ⊢
    repeat' (first | (k_unfold; (try dsimp only)) | ((fail_if_success (with_reducible show Mine.Halt _)); k_end; wrow_close) | walk1 | (dsimp only; walk1) | (leave1; walk_say "STEP leave1"; try dsimp only) | fail "no step")
    refine hretx _ ?_ _ _ _ (by assumption) (by first | assumption | exact Mine.news_sub (by assumption) (by intro p hp; (try simp only [List.mem_append, List.mem_cons, List.not_mem_nil, or_false, or_assoc] at hp); first | (simp [hp]; done) | (with_reducible refine Or.elim hp (fun hp => ?_) (fun hp => ?_) <;> (first | (simp [hp]; done) | (with_reducible refine Or.elim hp (fun hp => ?_) (fun hp => ?_) <;> (first | (simp [hp]; done) | (with_reducible refine Or.elim hp (fun hp => ?_) (fun hp => ?_) <;> (first | (simp [hp]; done) | (with_reducible refine Or.elim hp (fun hp => ?_) (fun hp => ?_) <;> ((simp [hp]; done)))))))))))
    rw [hj, ← hts.length, List.drop_length]
    rfl
end Mine

end
section
namespace Mine
theorem starts_texts {t1 t2 t3 t4 t5 t6 t7 t8 t9 : Tok} : Texts starts [.str (S [107, 105, 108, 111]) t1, .str (S [109, 105, 99, 114, 111]) t2, .str (S [109, 105, 108, 108, 105]) t3, .str (S [105, 110, 116, 114, 97]) t4, .str (S [117, 108, 116, 114, 97]) t5, .str (S [109, 101, 103, 97]) t6, .str (S [110, 97, 110, 111]) t7, .str (S [112, 105, 99, 111]) t8, .str (S [112, 115, 101, 117, 100, 111]) t9] :=
  .cons ⟨_, rfl⟩ (.cons ⟨_, rfl⟩ (.cons ⟨_, rfl⟩ (.cons ⟨_, rfl⟩ (.cons ⟨_, rfl⟩ (.cons ⟨_, rfl⟩ (.cons ⟨_, rfl⟩ (.cons ⟨_, rfl⟩ (.cons ⟨_, rfl⟩ .nil))))))))
theorem c_strip_prefix {w : World} {mean : ExcName → Option Value} {mg mb : Str → Option Value} {dp un : Nat} {gd : Option (List Code)} {cn : Str} {cs : Scope} {a : Addr} {ccd : Value} {cl : List (Str × Addr)} {outer : List Env} {A₀ : Around} {base h₀ : Heap} {L : Addr} {m : Str → Option Value} {news : List (Addr × Obj)} {s : Shared} {Q E : Value → Shared → Prop}
    {oa : Addr} {l : List Nat} {t : Tok}
    (B : Below A₀ base outer h₀) (F : Fr h₀ L s.heap m) (X : (hd.heap_39 w.params).In h₀) (N : News h₀ L s.heap news) (T : Top hd.view_39 (looseW hd.view_39 [Str.ofString "_law_starts"]) mean mg mb h₀) (hk : cs.kind = .function)
    (hdp : dp + 6 < recursionLimit) (hun : un + 100 < cLine)
    (hl : l.length ≤ 1000)
    (hret : ∀ t h' tk', Fr h₀ L h' m → News h₀ L h' news → Q (.str (S (bare l)) t) { s with heap := h', toks := tk' }) :
    wpAny (model PySem.Challenge.rw_iv0074_01.row.prog w) (ktrTop dp un gd cn cs L a ccd cl outer) (call (.ref 68) [.ref oa, .str (S l) t]) Q E s := by
  have hretx : ∀ x, bare l = x → ∀ t h' tk', Fr h₀ L h' m → News h₀ L h' news → Q (.str (S x) t) { s with heap := h', toks := tk' } := fun x e => e ▸ hret
  w_top off
  k_with_none
  (k_with "eval Constant str" => (k_here; first | (with_reducible refine Mine.const_S Mine.lit_0 ?_) | (with_reducible refine Mine.const_S Mine.lit_1 ?_) | (with_reducible refine Mine.const_S Mine.lit_2 ?_) | (with_reducible refine Mine.const_S Mine.lit_3 ?_) | (with_reducible refine Mine.const_S Mine.lit_4 ?_) | (with_reducible refine Mine.const_S Mine.lit_5 ?_) | (with_reducible refine Mine.const_S Mine.lit_6 ?_) | (with_reducible refine Mine.const_S Mine.lit_7 ?_) | (with_reducible refine Mine.const_S Mine.lit_8 ?_) | (with_reducible refine Mine.const_S Mine.lit_9 ?_) | (with_reducible refine Mine.const_S Mine.lit_10 ?_) | (with_reducible refine Mine.const_S Mine.lit_11 ?_) | (with_reducible refine Mine.const_S Mine.lit_12 ?_) | (with_reducible refine Mine.const_S Mine.lit_13 ?_) | (with_reducible refine Mine.const_S Mine.lit_14 ?_) | (with_reducible refine Mine.const_S Mine.lit_15 ?_) | (with_reducible refine Mine.const_S Mine.lit_16 ?_) | (with_reducible refine Mine.const_S Mine.lit_17 ?_) | (with_reducible refine Mine.const_S Mine.lit_18 ?_) | (with_reducible refine Mine.const_S Mine.lit_19 ?_) | (with_reducible refine Mine.const_S Mine.lit_20 ?_) | (with_reducible refine Mine.const_S Mine.lit_21 ?_) | (with_reducible refine Mine.const_S Mine.lit_22 ?_) | (with_reducible refine Mine.const_S Mine.lit_23 ?_) | (with_reducible refine Mine.const_S Mine.lit_24 ?_) | (with_reducible refine Mine.const_S Mine.lit_25 ?_) | (with_reducible refine Mine.const_S Mine.lit_26 ?_) | (with_reducible refine Mine.const_S Mine.lit_27 ?_) | (with_reducible refine Mine.const_S Mine.lit_28 ?_) | (with_reducible refine Mine.const_S Mine.lit_29 ?_) | (with_reducible refine Mine.const_S Mine.lit_30 ?_) | (with_reducible refine Mine.const_S Mine.lit_31 ?_) | (with_reducible refine Mine.const_S Mine.lit_32 ?_) | (with_reducible refine Mine.const_S Mine.lit_33 ?_) | (with_reducible refine Mine.const_S Mine.lit_34 ?_); intro _ _))
  (k_with "eval IfExp" => (k_here; first | (with_reducible refine Mine.ifexp_S Mine.lit_7 Mine.lit_12 (by decide) (by decide) ?_) | (with_reducible refine Mine.ifexp_S Mine.lit_9 Mine.lit_8 (by decide) (by decide) ?_)))
  (k_with "call builtin:len" => (k_here; (with_reducible show wpAny _ _ (call (Value.builtin "len") [Value.str (Mine.S _) _]) _ _ _); (refine Mine.len_S (by walk_at "OM") ?_); intro _ _))
  (k_with "truthy str" => (k_here; (with_reducible show wpAny _ _ (PySem.truthy (Value.str (Mine.S _) _)) _ _ _); (refine Mine.truthy_S (by walk_at "OM") ?_); intro _))
  (k_with "compareOp LtE str str" => (k_here; (with_reducible refine Mine.le_S ?_)))
  (k_with "compareOp Eq str str" => (k_here; (with_reducible refine Mine.eq_SS ?_)))
  (k_with "compareOp NotEq str str" => (k_here; (with_reducible refine Mine.ne_SS ?_)))
  (k_with "compareOp NotIn str str" => (k_here; (with_reducible refine Mine.notin_S ?_)))
  (k_with "binaryOp Add str str" => (k_here; (with_reducible show wpAny _ _ (binaryOp Operator.Add (Value.str (Mine.S _) _) (Value.str (Mine.S _) _)) _ _ _); (refine Mine.add_S (by walk_at "OM") ?_); intro _ _))
  (k_with "call builtin:str.find" => (k_here; (with_reducible refine Mine.find_SS ?_); intro _ _))
  (k_with "call builtin:str.startswith" => (k_here; (with_reducible refine Mine.starts_SS ?_)))
  (k_with "call builtin:str.endswith" => (k_here; (with_reducible refine Mine.ends_SS ?_)))
  (k_with "call builtin:str.strip" => (k_here; (with_reducible show wpAny _ _ (call (Value.builtin "str.strip") [Value.str (Mine.S _) _]) _ _ _); (refine Mine.strip_SS (by walk_at "OM") ?_); intro _ _))
  (k_with "subscriptTail Name Name str int" => (k_here; (with_reducible show wpAny _ _ (subscriptTail _ _ (Value.str (Mine.S _) _) (Value.int _ _)) _ _ _); (refine Mine.item_SS (by walk_at "OM") (by walk_at "OM") (by walk_at "OM") ?_); intro _ _))
  (k_with "subscriptTail Name Constant str int" => (k_here; (with_reducible show wpAny _ _ (subscriptTail _ _ (Value.str (Mine.S _) _) (Value.int _ _)) _ _ _); (refine Mine.item_SS (by walk_at "OM") (by walk_at "OM") (by walk_at "OM") ?_); intro _ _))
  (k_with "subscriptTail Name BinOp str int" => (k_here; (with_reducible show wpAny _ _ (subscriptTail _ _ (Value.str (Mine.S _) _) (Value.int _ _)) _ _ _); (refine Mine.item_SS (by walk_at "OM") (by walk_at "OM") (by walk_at "OM") ?_); intro _ _))
  (k_with "subscriptTail Name UnaryOp str int" => (k_here; (with_reducible show wpAny _ _ (subscriptTail _ _ (Value.str (Mine.S _) _) (Value.int (-1) _)) _ _ _); (refine Mine.item_SL ?_ (by walk_at "OM") ?_); rotate_left; intro _ _))
  (k_with "subscriptTail Name Name str int" => (k_here; (with_reducible show wpAny _ _ (subscriptTail _ _ (Value.str (Str.ofString _) _) (Value.int _ _)) _ _ _); (refine Mine.item_lit Mine.lit_34 (by (first | omega | exact fmod_lo _ (by decide) | exact fmod_hi _ (by decide) | fail "no bound")) (by (first | omega | exact fmod_lo _ (by decide) | exact fmod_hi _ (by decide) | fail "no bound")) (by decide) ?_); intro _ _))
  (k_with "subscriptTail Name Slice str ref" => (k_here; (with_reducible show wpAny _ _ (subscriptTail _ (Expr.Slice none (some _) none _) (Value.str (Mine.S _) _) _) _ _ _); (with_reducible rename Fr _ _ _ _ => wF); (with_reducible rename News _ _ _ _ => wN); (first | (refine Mine.slice_SS_to wF wN (by walk_at "OM") (by walk_at "OM") ?_) | (refine Mine.slice_SS_neg wF wN (by walk_at "OM") (by walk_at "OM") (by walk_at "OM") ?_)); intro _ _ _ _ _))
  (k_with "subscriptTail Name Slice str ref" => (k_here; (with_reducible show wpAny _ _ (subscriptTail _ (Expr.Slice (some _) none none _) (Value.str (Mine.S _) _) _) _ _ _); (with_reducible rename Fr _ _ _ _ => wF); (with_reducible rename News _ _ _ _ => wN); (refine Mine.slice_SS_from wF wN (by walk_at "OM") (by walk_at "OM") ?_); intro _ _ _ _ _))
  (k_with "subscriptTail Name Slice str ref" => (k_here; (with_reducible show wpAny _ _ (subscriptTail _ (Expr.Slice (some _) (some _) none _) (Value.str (Mine.S _) _) _) _ _ _); (with_reducible rename Fr _ _ _ _ => wF); (with_reducible rename News _ _ _ _ => wN); (refine Mine.slice_SS_mid wF wN (by walk_at "OM") (by walk_at "OM") (by walk_at "OM") (by walk_at "OM") ?_); intro _ _ _ _ _))
  (k_with "subscriptTail Name Slice str ref" => (k_here; (with_reducible show wpAny _ _ (subscriptTail _ (Expr.Slice none none (some _) _) (Value.str (Mine.S _) _) _) _ _ _); (with_reducible rename Fr _ _ _ _ => wF); (with_reducible rename News _ _ _ _ => wN); (refine Mine.slice_SS_rev wF wN (by walk_at "OM") ?_); intro _ _ _ _ _))
  (k_with "subscriptTail BinOp Slice str ref" => (k_here; (with_reducible show wpAny _ _ (subscriptTail _ (Expr.Slice none (some _) none _) (Value.str (Mine.S _) _) _) _ _ _); (with_reducible rename Fr _ _ _ _ => wF); (with_reducible rename News _ _ _ _ => wN); (first | (refine Mine.slice_SS_to wF wN (by walk_at "OM") (by walk_at "OM") ?_) | (refine Mine.slice_SS_neg wF wN (by walk_at "OM") (by walk_at "OM") (by walk_at "OM") ?_)); intro _ _ _ _ _))
  (k_with "subscriptTail BinOp Slice str ref" => (k_here; (with_reducible show wpAny _ _ (subscriptTail _ (Expr.Slice (some _) none none _) (Value.str (Mine.S _) _) _) _ _ _); (with_reducible rename Fr _ _ _ _ => wF); (with_reducible rename News _ _ _ _ => wN); (refine Mine.slice_SS_from wF wN (by walk_at "OM") (by walk_at "OM") ?_); intro _ _ _ _ _))
  (k_with "subscriptTail BinOp Slice str ref" => (k_here; (with_reducible show wpAny _ _ (subscriptTail _ (Expr.Slice (some _) (some _) none _) (Value.str (Mine.S _) _) _) _ _ _); (with_reducible rename Fr _ _ _ _ => wF); (with_reducible rename News _ _ _ _ => wN); (refine Mine.slice_SS_mid wF wN (by walk_at "OM") (by walk_at "OM") (by walk_at "OM") (by walk_at "OM") ?_); intro _ _ _ _ _))
  (k_with "subscriptTail BinOp Slice str ref" => (k_here; (with_reducible show wpAny _ _ (subscriptTail _ (Expr.Slice none none (some _) _) (Value.str (Mine.S _) _) _) _ _ _); (with_reducible rename Fr _ _ _ _ => wF); (with_reducible rename News _ _ _ _ => wN); (refine Mine.slice_SS_rev wF wN (by walk_at "OM") ?_); intro _ _ _ _ _))
  (k_with "pyIter ref" => ((with_reducible show wpAny _ _ (pyIter (Value.ref _)) (fun _ _ => LoopAtV _ _ _ _ _ _ _ _ _ _ _) _ _); refine Mine.Halt.go ?_))
  (k_with "pyIter str" => ((with_reducible show wpAny _ _ (pyIter (Value.str _ _)) (fun _ _ => LoopAtV _ _ _ _ _ _ _ _ _ _ _) _ _); refine Mine.Halt.go ?_))
  (k_with "exec For Name Name cons nil" => (k_here; (rename Fr _ _ _ _ => wlF); (with_unfolding_all refine For_invVF wlF (by exact rfl) (by exact rfl) ?_; k_whole)))
  (k_with "exec For Name Call cons nil" => (k_here; (rename Fr _ _ _ _ => wlF); (with_unfolding_all refine For_invVF wlF (by exact rfl) (by exact rfl) ?_; k_whole)))
  (k_with "exec For Name Subscript cons nil" => (k_here; (rename Fr _ _ _ _ => wlF); (with_unfolding_all refine For_invVF wlF (by exact rfl) (by exact rfl) ?_; k_whole)))
  (k_with "exec For Name Tuple cons nil" => (k_here; (rename Fr _ _ _ _ => wlF); (with_unfolding_all refine For_invVF wlF (by exact rfl) (by exact rfl) ?_; k_whole)))
  (k_with "KswEnd" => (refine Mine.Halt.go ?_))
  (k_with "ExitPost" => (refine Mine.Halt.go ?_))
  (k_with "LcEnd" => (refine Mine.Halt.go ?_))
  (k_with "LcBrk" => (refine Mine.Halt.go ?_))
  (k_with "LcPost" => (dsimp only [Mine.LcPost]))
  (k_with "eval ListComp" => (k_here; first | ((with_reducible show wpAny _ _ (eval (Expr.ListComp _ [⟨_, _, [], _⟩] _ _) _) _ _ _); k_dflt (refine Mine.comp_EU (by with_unfolding_all rfl) (by decide) (by rfl) (by decide) (by rfl) ?_)) | ((with_reducible show wpAny _ _ (eval (Expr.ListComp _ [⟨_, _, [_], _⟩] _ _) _) _ _ _); k_dflt (refine Mine.comp_ET (by with_unfolding_all rfl) (by decide) (by rfl) (by decide) (by rfl) ?_))))
  (k_with "exec Assign cons ListComp" => (k_here; first | ((with_reducible show wpAny _ _ (exec (Stmt.Assign _ (Expr.ListComp _ [⟨_, _, [], _⟩] _ _) _) _) _ _ _); k_dflt (refine Mine.comp_AU (by with_unfolding_all rfl) (by with_unfolding_all rfl) (by decide) (by rfl) (by decide) (by rfl) (by rfl) (by rfl) ?_)) | ((with_reducible show wpAny _ _ (exec (Stmt.Assign _ (Expr.ListComp _ [⟨_, _, [_], _⟩] _ _) _) _) _ _ _); k_dflt (refine Mine.comp_AT (by with_unfolding_all rfl) (by with_unfolding_all rfl) (by decide) (by rfl) (by decide) (by rfl) (by rfl) (by rfl) ?_))))
  (k_with "pyIter ref" => (first | ((with_reducible show wpAny _ _ (pyIter (Value.ref _)) (Mine.CompAtT _ _ _ _ _ _ _ _ _ _) _ _); refine Mine.Halt.go ?_) | ((with_reducible show wpAny _ _ (pyIter (Value.ref _)) (Mine.CompAtU _ _ _ _ _ _ _ _ _) _ _); refine Mine.Halt.go ?_)))
  (k_with "pyIter str" => (first | ((with_reducible show wpAny _ _ (pyIter (Value.str _ _)) (Mine.CompAtT _ _ _ _ _ _ _ _ _ _) _ _); refine Mine.Halt.go ?_) | ((with_reducible show wpAny _ _ (pyIter (Value.str _ _)) (Mine.CompAtU _ _ _ _ _ _ _ _ _) _ _); refine Mine.Halt.go ?_)))
  (k_with "TestPost" => (refine And.intro (fun whb => ?_) (fun whb => ?_) <;> (try (exact absurd whb (by decide)))))
  (k_with "CompEnd" => (refine Mine.Halt.go ?_))
  (k_with "FinE" => (refine Mine.Halt.go ?_))
  (k_with "FinA" => (refine Mine.Halt.go ?_))
  (k_with "compareOp NotEq ref ref" => (k_here; refine Mine.ne_nil (by k_asm) (by k_mem) (by k_mem) (by ktr_units) ?_))
  (k_with "compareOp Eq ref ref" => (k_here; refine Mine.eq_nil (by k_asm) (by k_mem) (by k_mem) (by ktr_units) ?_))
  revert X
  k_fill
  intro X
  refine wpAny_call ?_
  k_dflt cell_enter
  rename_i g' L' h' FG' F' N' B' X' T'
  replace F' := fr_norm [(Str.ofString "word", .str (S l) t), (Str.ofString "self", .ref oa)] F' rfl
  repeat' (first | (k_unfold; (try dsimp only)) | ((fail_if_success (with_reducible show Mine.Halt _)); k_end; wrow_close) | walk1 | (dsimp only; walk1) | (leave1; walk_say "STEP leave1"; try dsimp only) | fail "no step")
  (with_reducible rename Fr _ _ _ _ => hF)
  (with_reducible rename News _ _ _ _ => hN)
  refine Halt.out ?_
  refine' tuple_cut (σ := Unit) (fun _ => _) (fun _ => []) [] (fun i _ => bare l = bareOf (starts.drop i) l) (fun _ => False) () rfl ?hl hF hN ?kk ?start ?turn ?brk ?done
  case hl => exact .head _
  case kk => kst_all
  case start => rfl
  case brk => intro c u h tk hf; exact hf.elim
  case turn =>
    clear hF hN
    rintro i v ⟨⟩ u h tk own I hi hv hj hoff hI F' N'
    dsimp only at hj F' N' ⊢
    obtain ⟨z, t9, hz, rfl⟩ := starts_texts.at hv
    have hz6 : z.length ≤ 6 := starts_len z (List.mem_of_getElem? hz)
    rw [bareOf_step hz] at hj
    try k_fold
    repeat' (first | (k_unfold; (try dsimp only)) | ((fail_if_success (with_reducible show Mine.Halt _)); k_end; wrow_close) | walk1 | (dsimp only; walk1) | (leave1; walk_say "STEP leave1"; try dsimp only) | fail "no step")
    all_goals first
      | (refine Halt.out (lc_end () (by assumption) (by assumption) (by intro p hp; (try simp only [List.mem_append, List.mem_cons, List.not_mem_nil, or_false, or_assoc] at hp); first | (simp [hp]; done) | (with_reducible refine Or.elim hp (fun hp => ?_) (fun hp => ?_) <;> (first | (simp [hp]; done) | (with_reducible refine Or.elim hp (fun hp => ?_) (fun hp => ?_) <;> (first | (simp [hp]; done) | (with_reducible refine Or.elim hp (fun hp => ?_) (fun hp => ?_) <;> (first | (simp [hp]; done) | (with_reducible refine Or.elim hp (fun hp => ?_) (fun hp => ?_) <;> ((simp [hp]; done)))))))))) (by intro p hp; (try simp only [List.mem_append, List.mem_cons, List.not_mem_nil, or_false, or_assoc] at hp); first | (simp [hp]; done) | (with_reducible refine Or.elim hp (fun hp => ?_) (fun hp => ?_) <;> (first | (simp [hp]; done) | (with_reducible refine Or.elim hp (fun hp => ?_) (fun hp => ?_) <;> (first | (simp [hp]; done) | (with_reducible refine Or.elim hp (fun hp => ?_) (fun hp => ?_) <;> (first | (simp [hp]; done) | (with_reducible refine Or.elim hp (fun hp => ?_) (fun hp => ?_) <;> ((simp [hp]; done)))))))))) (fun p hp hm => hoff p hp (List.mem_singleton.mp hm)) (by kst_all) (by first | (intro z h1 h2 h3; (try dsimp only [kstB]); (repeat (refine Eq.trans (if_neg (by (first | exact h1 | exact Mine.off_stored h3 (by decide +kernel) | ((fail_if_success (exact Mine.not_stored h3)); exact Mine.sub_stored h3 (by decide +kernel)) | exact h2 _ (.head _) | exact h2 _ (.tail _ (.head _)) | exact h2 _ (.tail _ (.tail _ (.head _))) | exact h2 _ (.tail _ (.tail _ (.tail _ (.head _))))))) ?_)); first | exact if_neg (Mine.not_stored h3) | exact rfl) | (intro z h1 h2 h3; (try simp only [List.forall_mem_cons, List.not_mem_nil, false_implies, implies_true, and_true, ne_eq] at h2); (try simp only [List.contains_cons, List.contains_nil, Bool.or_false, Bool.or_eq_false_iff, beq_eq_false_iff_ne, ne_eq] at h3); simp [kstB, h1, h2, h3])) ?_)
         rw [if_neg (by rw [Bool.not_eq_true]; assumption)] at hj
         exact hj)
      | ((try simp only [Int.toNat_natCast] at *)
         refine hretx _ ?_ _ _ _ (by assumption) (by first | assumption | exact Mine.news_sub (by assumption) (by intro p hp; (try simp only [List.mem_append, List.mem_cons, List.not_mem_nil, or_false, or_assoc] at hp); first | (simp [hp]; done) | (with_reducible refine Or.elim hp (fun hp => ?_) (fun hp => ?_) <;> (first | (simp [hp]; done) | (with_reducible refine Or.elim hp (fun hp => ?_) (fun hp => ?_) <;> (first | (simp [hp]; done) | (with_reducible refine Or.elim hp (fun hp => ?_) (fun hp => ?_) <;> (first | (simp [hp]; done) | (with_reducible refine Or.elim hp (fun hp => ?_) (fun hp => ?_) <;> ((simp [hp]; done)))))))))))
         rw [if_pos (by assumption)] at hj
         exact hj)
  case done =>
    clear hF hN
    rintro ⟨⟩ u h tk hj F' N'
    dsimp only at hj F' N' ⊢
    repeat' (first | (k_unfold; (try dsimp only)) | ((fail_if_success (with_reducible show Mine.Halt _)); k_end; wrow_close) | walk1 | (dsimp only; walk1) | (leave1; walk_say "STEP leave1"; try dsimp only) | fail "no step")
    refine hretx _ ?_ _ _ _ (by assumption) (by first | assumption | exact Mine.news_sub (by assumption) (by intro p hp; (try simp only [List.mem_append, List.mem_cons, List.not_mem_nil, or_false, or_assoc] at hp); first | (simp [hp]; done) | (with_reducible refine Or.elim hp (fun hp => ?_) (fun hp => ?_) <;> (first | (simp [hp]; done) | (with_reducible refine Or.elim hp (fun hp => ?_) (fun hp => ?_) <;> (first | (simp [hp]; done) | (with_reducible refine Or.elim hp (fun hp => ?_) (fun hp => ?_) <;> (first | (simp [hp]; done) | (with_reducible refine Or.elim hp (fun hp => ?_) (fun hp => ?_) <;> ((simp [hp]; done)))))))))))
    rw [hj, ← starts_texts.length, List.drop_length]
    rfl
end Mine

end
section

namespace Mine
noncomputable def vowels : List Nat := [97, 101, 105, 111, 117]
theorem isVowel_iff (c : Nat) : isVowel c = true ↔ c ∈ vowels := by
  simp [isVowel, vowels, Bool.or_eq_true, or_assoc]
/-- the places at which the vowels stand first -/
noncomputable def spots (l : List Nat) : List Int := vowels.map (findI l)
theorem findI_lo (l : List Nat) (c : Nat) : -1 ≤ findI l c := by unfold findI; split <;> omega
theorem findI_in {l : List Nat} {c : Nat} (h : c ∈ l) : 0 ≤ findI l c := by unfold findI; rw [if_pos h]; omega
theorem findI_hit {l : List Nat} {c : Nat} : findI l c = 0 ↔ l.head? = some c := by
  unfold findI
  cases l with
  | nil => simp
  | cons a r =>
    by_cases e : a = c
    · subst e; simp
    · simp only [List.head?_cons, Option.some.injEq, e, iff_false]
      split
      · rw [List.idxOf_cons, cond_eq_ite, if_neg (by simpa using e)]
        omega
      · omega
theorem vp_pos {l : List Nat} {M : Int} (hM : M ∈ (spots l).filter (fun p => decide (p > -1))) : 0 ≤ M := by
  have := (List.mem_filter.mp hM).2
  simp at this
  omega
theorem vp_zero {l : List Nat} {M : Int} (hM : M ∈ (spots l).filter (fun p => decide (p > -1))) (hm : ∀ a, a ∈ (spots l).filter (fun p => decide (p > -1)) → M ≤ a) (hl : l ≠ []) : M = 0 ↔ isVowel (l.getD 0 0) = true := by
  have h0 := vp_pos hM
  have hd : l.head? = some (l.getD 0 0) := by cases l with | nil => exact absurd rfl hl | cons a r => rfl
  constructor
  · intro e
    subst e
    obtain ⟨c, hc, e⟩ := List.mem_map.mp (List.mem_filter.mp hM).1
    have := findI_hit.mp e
    rw [hd] at this
    cases this
    exact (isVowel_iff _).mpr hc
  · intro hv
    have : (0 : Int) ∈ (spots l).filter (fun p => decide (p > -1)) := by
      refine List.mem_filter.mpr ⟨List.mem_map.mpr ⟨_, (isVowel_iff _).mp hv, findI_hit.mpr hd⟩, by decide⟩
    have := hm 0 this
    omega
theorem spots_some {l : List Nat} (hv : voiced l = true) : 0 < ((spots l).filter (fun p => decide (p > -1))).length := by
  obtain ⟨c, h1, h2⟩ := List.any_eq_true.mp hv
  have : findI l c ∈ (spots l).filter (fun p => decide (p > -1)) := by
    refine List.mem_filter.mpr ⟨List.mem_map.mpr ⟨c, (isVowel_iff _).mp h2, rfl⟩, ?_⟩
    have := findI_in h1
    simp
    omega
  exact List.length_pos_of_mem this
theorem ints_take {zs : List Int} {i : Nat} {z : Int} {t : Tok} {ys : List Value} (hz : zs[i]? = some z) (h : IntsAre ys (zs.take i)) : IntsAre (ys ++ [.int z t]) (zs.take (i + 1)) := by
  rw [List.take_add_one, hz]
  exact h.append (.cons _ _ .nil)
theorem ints_filter {p : Int → Bool} {zs : List Int} {i : Nat} {z : Int} {t : Tok} {ys : List Value} (hz : zs[i]? = some z) (hp : p z = true) (h : IntsAre ys ((zs.take i).filter p)) : IntsAre (ys ++ [.int z t]) ((zs.take (i + 1)).filter p) := by
  rw [List.take_add_one, hz, List.filter_append]
  simp only [Option.toList_some, List.filter_cons, hp, if_true, List.filter_nil]
  exact h.append (.cons _ _ .nil)
theorem ints_skip {p : Int → Bool} {zs : List Int} {i : Nat} {z : Int} {ys : List Value} (hz : zs[i]? = some z) (hp : p z = false) (h : IntsAre ys ((zs.take i).filter p)) : IntsAre ys ((zs.take (i + 1)).filter p) := by
  rw [List.take_add_one, hz, List.filter_append]
  simp only [Option.toList_some, List.filter_cons, hp, Bool.false_eq_true, if_false, List.filter_nil, List.append_nil]
  exact h
end Mine

namespace Mine
theorem c_first_vowel {w : World} {mean : ExcName → Option Value} {mg mb : Str → Option Value} {dp un : Nat} {gd : Option (List Code)} {cn : Str} {cs : Scope} {a : Addr} {ccd : Value} {cl : List (Str × Addr)} {outer : List Env} {A₀ : Around} {base h₀ : Heap} {L : Addr} {m : Str → Option Value} {news : List (Addr × Obj)} {s : Shared} {Q E : Value → Shared → Prop}
    {oa : Addr} {l : List Nat} {t : Tok}
    (B : Below A₀ base outer h₀) (F : Fr h₀ L s.heap m) (X : (hd.heap_39 w.params).In h₀) (N : News h₀ L s.heap news) (T : Top hd.view_39 (looseW hd.view_39 [Str.ofString "_law_starts"]) mean mg mb h₀) (hk : cs.kind = .function)
    (hdp : dp + 6 < recursionLimit) (hun : un + 100 < cLine)
    (hl : l.length ≤ 1000) (hv : voiced l = true)
    (hret : ∀ (p : Int) t h' tk', 0 ≤ p → (p = 0 ↔ isVowel (l.getD 0 0) = true) → Fr h₀ L h' m → News h₀ L h' news → Q (.int p t) { s with heap := h', toks := tk' }) :
    wpAny (model PySem.Challenge.rw_iv0074_01.row.prog w) (ktrTop dp un gd cn cs L a ccd cl outer) (call (.ref 61) [.ref oa, .str (S l) t]) Q E s := by
  have hne : l ≠ [] := by rintro rfl; cases hv
  w_top off
  k_with_none
  (k_with "eval Constant str" => (k_here; first | (with_reducible refine Mine.const_S Mine.lit_0 ?_) | (with_reducible refine Mine.const_S Mine.lit_1 ?_) | (with_reducible refine Mine.const_S Mine.lit_2 ?_) | (with_reducible refine Mine.const_S Mine.lit_3 ?_) | (with_reducible refine Mine.const_S Mine.lit_4 ?_) | (with_reducible refine Mine.const_S Mine.lit_5 ?_) | (with_reducible refine Mine.const_S Mine.lit_6 ?_) | (with_reducible refine Mine.const_S Mine.lit_7 ?_) | (with_reducible refine Mine.const_S Mine.lit_8 ?_) | (with_reducible refine Mine.const_S Mine.lit_9 ?_) | (with_reducible refine Mine.const_S Mine.lit_10 ?_) | (with_reducible refine Mine.const_S Mine.lit_11 ?_) | (with_reducible refine Mine.const_S Mine.lit_12 ?_) | (with_reducible refine Mine.const_S Mine.lit_13 ?_) | (with_reducible refine Mine.const_S Mine.lit_14 ?_) | (with_reducible refine Mine.const_S Mine.lit_15 ?_) | (with_reducible refine Mine.const_S Mine.lit_16 ?_) | (with_reducible refine Mine.const_S Mine.lit_17 ?_) | (with_reducible refine Mine.const_S Mine.lit_18 ?_) | (with_reducible refine Mine.const_S Mine.lit_19 ?_) | (with_reducible refine Mine.const_S Mine.lit_20 ?_) | (with_reducible refine Mine.const_S Mine.lit_21 ?_) | (with_reducible refine Mine.const_S Mine.lit_22 ?_) | (with_reducible refine Mine.const_S Mine.lit_23 ?_) | (with_reducible refine Mine.const_S Mine.lit_24 ?_) | (with_reducible refine Mine.const_S Mine.lit_25 ?_) | (with_reducible refine Mine.const_S Mine.lit_26 ?_) | (with_reducible refine Mine.const_S Mine.lit_27 ?_) | (with_reducible refine Mine.const_S Mine.lit_28 ?_) | (with_reducible refine Mine.const_S Mine.lit_29 ?_) | (with_reducible refine Mine.const_S Mine.lit_30 ?_) | (with_reducible refine Mine.const_S Mine.lit_31 ?_) | (with_reducible refine Mine.const_S Mine.lit_32 ?_) | (with_reducible refine Mine.const_S Mine.lit_33 ?_) | (with_reducible refine Mine.const_S Mine.lit_34 ?_); intro _ _))
  (k_with "eval IfExp" => (k_here; first | (with_reducible refine Mine.ifexp_S Mine.lit_7 Mine.lit_12 (by decide) (by decide) ?_) | (with_reducible refine Mine.ifexp_S Mine.lit_9 Mine.lit_8 (by decide) (by decide) ?_)))
  (k_with "call builtin:len" => (k_here; (with_reducible show wpAny _ _ (call (Value.builtin "len") [Value.str (Mine.S _) _]) _ _ _); (refine Mine.len_S (by walk_at "OM") ?_); intro _ _))
  (k_with "truthy str" => (k_here; (with_reducible show wpAny _ _ (PySem.truthy (Value.str (Mine.S _) _)) _ _ _); (refine Mine.truthy_S (by walk_at "OM") ?_); intro _))
  (k_with "compareOp LtE str str" => (k_here; (with_reducible refine Mine.le_S ?_)))
  (k_with "compareOp Eq str str" => (k_here; (with_reducible refine Mine.eq_SS ?_)))
  (k_with "compareOp NotEq str str" => (k_here; (with_reducible refine Mine.ne_SS ?_)))
  (k_with "compareOp NotIn str str" => (k_here; (with_reducible refine Mine.notin_S ?_)))
  (k_with "binaryOp Add str str" => (k_here; (with_reducible show wpAny _ _ (binaryOp Operator.Add (Value.str (Mine.S _) _) (Value.str (Mine.S _) _)) _ _ _); (refine Mine.add_S (by walk_at "OM") ?_); intro _ _))
  (k_with "call builtin:str.find" => (k_here; (with_reducible refine Mine.find_SS ?_); intro _ _))
  (k_with "call builtin:str.startswith" => (k_here; (with_reducible refine Mine.starts_SS ?_)))
  (k_with "call builtin:str.endswith" => (k_here; (with_reducible refine Mine.ends_SS ?_)))
  (k_with "call builtin:str.strip" => (k_here; (with_reducible show wpAny _ _ (call (Value.builtin "str.strip") [Value.str (Mine.S _) _]) _ _ _); (refine Mine.strip_SS (by walk_at "OM") ?_); intro _ _))
  (k_with "subscriptTail Name Name str int" => (k_here; (with_reducible show wpAny _ _ (subscriptTail _ _ (Value.str (Mine.S _) _) (Value.int _ _)) _ _ _); (refine Mine.item_SS (by walk_at "OM") (by walk_at "OM") (by walk_at "OM") ?_); intro _ _))
  (k_with "subscriptTail Name Constant str int" => (k_here; (with_reducible show wpAny _ _ (subscriptTail _ _ (Value.str (Mine.S _) _) (Value.int _ _)) _ _ _); (refine Mine.item_SS (by walk_at "OM") (by walk_at "OM") (by walk_at "OM") ?_); intro _ _))
  (k_with "subscriptTail Name BinOp str int" => (k_here; (with_reducible show wpAny _ _ (subscriptTail _ _ (Value.str (Mine.S _) _) (Value.int _ _)) _ _ _); (refine Mine.item_SS (by walk_at "OM") (by walk_at "OM") (by walk_at "OM") ?_); intro _ _))
  (k_with "subscriptTail Name UnaryOp str int" => (k_here; (with_reducible show wpAny _ _ (subscriptTail _ _ (Value.str (Mine.S _) _) (Value.int (-1) _)) _ _ _); (refine Mine.item_SL ?_ (by walk_at "OM") ?_); rotate_left; intro _ _))
  (k_with "subscriptTail Name Name str int" => (k_here; (with_reducible show wpAny _ _ (subscriptTail _ _ (Value.str (Str.ofString _) _) (Value.int _ _)) _ _ _); (refine Mine.item_lit Mine.lit_34 (by (first | omega | exact fmod_lo _ (by decide) | exact fmod_hi _ (by decide) | fail "no bound")) (by (first | omega | exact fmod_lo _ (by decide) | exact fmod_hi _ (by decide) | fail "no bound")) (by decide) ?_); intro _ _))
  (k_with "subscriptTail Name Slice str ref" => (k_here; (with_reducible show wpAny _ _ (subscriptTail _ (Expr.Slice none (some _) none _) (Value.str (Mine.S _) _) _) _ _ _); (with_reducible rename Fr _ _ _ _ => wF); (with_reducible rename News _ _ _ _ => wN); (first | (refine Mine.slice_SS_to wF wN (by walk_at "OM") (by walk_at "OM") ?_) | (refine Mine.slice_SS_neg wF wN (by walk_at "OM") (by walk_at "OM") (by walk_at "OM") ?_)); intro _ _ _ _ _))
  (k_with "subscriptTail Name Slice str ref" => (k_here; (with_reducible show wpAny _ _ (subscriptTail _ (Expr.Slice (some _) none none _) (Value.str (Mine.S _) _) _) _ _ _); (with_reducible rename Fr _ _ _ _ => wF); (with_reducible rename News _ _ _ _ => wN); (refine Mine.slice_SS_from wF wN (by walk_at "OM") (by walk_at "OM") ?_); intro _ _ _ _ _))
  (k_with "subscriptTail Name Slice str ref" => (k_here; (with_reducible show wpAny _ _ (subscriptTail _ (Expr.Slice (some _) (some _) none _) (Value.str (Mine.S _) _) _) _ _ _); (with_reducible rename Fr _ _ _ _ => wF); (with_reducible rename News _ _ _ _ => wN); (refine Mine.slice_SS_mid wF wN (by walk_at "OM") (by walk_at "OM") (by walk_at "OM") (by walk_at "OM") ?_); intro _ _ _ _ _))
  (k_with "subscriptTail Name Slice str ref" => (k_here; (with_reducible show wpAny _ _ (subscriptTail _ (Expr.Slice none none (some _) _) (Value.str (Mine.S _) _) _) _ _ _); (with_reducible rename Fr _ _ _ _ => wF); (with_reducible rename News _ _ _ _ => wN); (refine Mine.slice_SS_rev wF wN (by walk_at "OM") ?_); intro _ _ _ _ _))
  (k_with "subscriptTail BinOp Slice str ref" => (k_here; (with_reducible show wpAny _ _ (subscriptTail _ (Expr.Slice none (some _) none _) (Value.str (Mine.S _) _) _) _ _ _); (with_reducible rename Fr _ _ _ _ => wF); (with_reducible rename News _ _ _ _ => wN); (first | (refine Mine.slice_SS_to wF wN (by walk_at "OM") (by walk_at "OM") ?_) | (refine Mine.slice_SS_neg wF wN (by walk_at "OM") (by walk_at "OM") (by walk_at "OM") ?_)); intro _ _ _ _ _))
  (k_with "subscriptTail BinOp Slice str ref" => (k_here; (with_reducible show wpAny _ _ (subscriptTail _ (Expr.Slice (some _) none none _) (Value.str (Mine.S _) _) _) _ _ _); (with_reducible rename Fr _ _ _ _ => wF); (with_reducible rename News _ _ _ _ => wN); (refine Mine.slice_SS_from wF wN (by walk_at "OM") (by walk_at "OM") ?_); intro _ _ _ _ _))
  (k_with "subscriptTail BinOp Slice str ref" => (k_here; (with_reducible show wpAny _ _ (subscriptTail _ (Expr.Slice (some _) (some _) none _) (Value.str (Mine.S _) _) _) _ _ _); (with_reducible rename Fr _ _ _ _ => wF); (with_reducible rename News _ _ _ _ => wN); (refine Mine.slice_SS_mid wF wN (by walk_at "OM") (by walk_at "OM") (by walk_at "OM") (by walk_at "OM") ?_); intro _ _ _ _ _))
  (k_with "subscriptTail BinOp Slice str ref" => (k_here; (with_reducible show wpAny _ _ (subscriptTail _ (Expr.Slice none none (some _) _) (Value.str (Mine.S _) _) _) _ _ _); (with_reducible rename Fr _ _ _ _ => wF); (with_reducible rename News _ _ _ _ => wN); (refine Mine.slice_SS_rev wF wN (by walk_at "OM") ?_); intro _ _ _ _ _))
  (k_with "pyIter ref" => ((with_reducible show wpAny _ _ (pyIter (Value.ref _)) (fun _ _ => LoopAtV _ _ _ _ _ _ _ _ _ _ _) _ _); refine Mine.Halt.go ?_))
  (k_with "pyIter str" => ((with_reducible show wpAny _ _ (pyIter (Value.str _ _)) (fun _ _ => LoopAtV _ _ _ _ _ _ _ _ _ _ _) _ _); refine Mine.Halt.go ?_))
  (k_with "exec For Name Name cons nil" => (k_here; (rename Fr _ _ _ _ => wlF); (with_unfolding_all refine For_invVF wlF (by exact rfl) (by exact rfl) ?_; k_whole)))
  (k_with "exec For Name Call cons nil" => (k_here; (rename Fr _ _ _ _ => wlF); (with_unfolding_all refine For_invVF wlF (by exact rfl) (by exact rfl) ?_; k_whole)))
  (k_with "exec For Name Subscript cons nil" => (k_here; (rename Fr _ _ _ _ => wlF); (with_unfolding_all refine For_invVF wlF (by exact rfl) (by exact rfl) ?_; k_whole)))
  (k_with "exec For Name Tuple cons nil" => (k_here; (rename Fr _ _ _ _ => wlF); (with_unfolding_all refine For_invVF wlF (by exact rfl) (by exact rfl) ?_; k_whole)))
  (k_with "KswEnd" => (refine Mine.Halt.go ?_))
  (k_with "ExitPost" => (refine Mine.Halt.go ?_))
  (k_with "LcEnd" => (refine Mine.Halt.go ?_))
  (k_with "LcBrk" => (refine Mine.Halt.go ?_))
  (k_with "LcPost" => (dsimp only [Mine.LcPost]))
  (k_with "eval ListComp" => (k_here; first | ((with_reducible show wpAny _ _ (eval (Expr.ListComp _ [⟨_, _, [], _⟩] _ _) _) _ _ _); k_dflt (refine Mine.comp_EU (by with_unfolding_all rfl) (by decide) (by rfl) (by decide) (by rfl) ?_)) | ((with_reducible show wpAny _ _ (eval (Expr.ListComp _ [⟨_, _, [_], _⟩] _ _) _) _ _ _); k_dflt (refine Mine.comp_ET (by with_unfolding_all rfl) (by decide) (by rfl) (by decide) (by rfl) ?_))))
  (k_with "exec Assign cons ListComp" => (k_here; first | ((with_reducible show wpAny _ _ (exec (Stmt.Assign _ (Expr.ListComp _ [⟨_, _, [], _⟩] _ _) _) _) _ _ _); k_dflt (refine Mine.comp_AU (by with_unfolding_all rfl) (by with_unfolding_all rfl) (by decide) (by rfl) (by decide) (by rfl) (by rfl) (by rfl) ?_)) | ((with_reducible show wpAny _ _ (exec (Stmt.Assign _ (Expr.ListComp _ [⟨_, _, [_], _⟩] _ _) _) _) _ _ _); k_dflt (refine Mine.comp_AT (by with_unfolding_all rfl) (by with_unfolding_all rfl) (by decide) (by rfl) (by decide) (by rfl) (by rfl) (by rfl) ?_))))
  (k_with "pyIter ref" => (first | ((with_reducible show wpAny _ _ (pyIter (Value.ref _)) (Mine.CompAtT _ _ _ _ _ _ _ _ _ _) _ _); refine Mine.Halt.go ?_) | ((with_reducible show wpAny _ _ (pyIter (Value.ref _)) (Mine.CompAtU _ _ _ _ _ _ _ _ _) _ _); refine Mine.Halt.go ?_)))
  (k_with "pyIter str" => (first | ((with_reducible show wpAny _ _ (pyIter (Value.str _ _)) (Mine.CompAtT _ _ _ _ _ _ _ _ _ _) _ _); refine Mine.Halt.go ?_) | ((with_reducible show wpAny _ _ (pyIter (Value.str _ _)) (Mine.CompAtU _ _ _ _ _ _ _ _ _) _ _); refine Mine.Halt.go ?_)))
  (k_with "TestPost" => (refine And.intro (fun whb => ?_) (fun whb => ?_) <;> (try (exact absurd whb (by decide)))))
  (k_with "CompEnd" => (refine Mine.Halt.go ?_))
  (k_with "FinE" => (refine Mine.Halt.go ?_))
  (k_with "FinA" => (refine Mine.Halt.go ?_))
  (k_with "compareOp NotEq ref ref" => (k_here; refine Mine.ne_nil (by k_asm) (by k_mem) (by k_mem) (by ktr_units) ?_))
  (k_with "compareOp Eq ref ref" => (k_here; refine Mine.eq_nil (by k_asm) (by k_mem) (by k_mem) (by ktr_units) ?_))
  (k_with "call builtin:min" => (refine Mine.Halt.go ?_))
  revert X
  k_fill
  intro X
  refine wpAny_call ?_
  k_dflt (refine' code_defC ?k1 ?k2 ?k3 ?k4 ?k5 ?kA ?kF ?kK ?k6 ?k7 ?k8 ?k9 ?kB ?kD ?_ ?c2 ?c3 ?c4; (case kA => exact rfl); (case kF => exact rfl); (case kK => assumption); (case k1 => k_asm); (case k2 => k_asm); (case k3 => k_asm); (case k4 => k_asm); (case k5 => k_asm); (case k6 => k_is); (case k7 => k_is); (case k8 => ktr_room); (case k9 => exact BindsTo.of_eq rfl); (case kB => exact rfl); (case kD => decide +kernel); (case c2 => exact rfl); (case c3 => exact rfl); (case c4 => exact rfl); k_whole; intro g' L' h' tk' cells' FG' F' N' Y' B' X' T' l1; (try k_lt l1); k_cells Y'; (try simp only [List.cons_append, List.nil_append] at N'); (try dsimp only); (try k_lift B'); (try k_fold))
  replace F' : Fr g' L' h' (kstB (fun _ => none) [(Str.ofString "self", .ref oa)]) := by with_unfolding_all exact F'
  (with_reducible rename (Obj.data _ = _) => d9)
  (with_reducible rename Obj => o9)
  replace d9 : o9.data = .cell (some (.str (S l) t)) := by with_unfolding_all exact d9
  repeat' (first | (k_unfold; (try dsimp only)) | ((fail_if_success (with_reducible show Mine.Halt _)); k_end; wrow_close) | walk1 | (dsimp only; walk1) | (leave1; walk_say "STEP leave1"; try dsimp only) | fail "no step")
  refine Halt.out ?_
  refine' text_compU (fun i ys nw => (L' + 1, o9) :: news = nw ∧ IntsAre ys ((spots l).take i)) ?hh ?hL ?F₁ ?N₁ ?hsz ?hJ ?turn ?done
  case hh => exact rfl
  case hL => exact rfl
  case F₁ => assumption
  case N₁ => assumption
  case hsz => rw [sizeLine_eq]; (try simp only [List.length_cons, List.length_nil]); omega
  case hJ => exact ⟨rfl, .nil⟩
  case turn =>
    clear F' N'
    intro S9 hS9 i ys nw hi hJ9 v I oI C oC D m9 h9 tk9 E9 hV9 hC9 hx9 F' N' hoff hne'
    try k_fold
    obtain ⟨rfl, hys⟩ := hJ9
    obtain ⟨k, tk, hk, rfl⟩ := hV9
    repeat' (first | (k_unfold; (try dsimp only)) | ((fail_if_success (with_reducible show Mine.Halt _)); k_end; wrow_close) | walk1 | (dsimp only; walk1) | (leave1; walk_say "STEP leave1"; try dsimp only) | fail "no step")
    all_goals (
      refine Halt.out (LCg.CompEnd.intro (by assumption) (by assumption) ((L' + 1, o9) :: news) (by intro p hp; (try simp only [List.mem_append, List.mem_cons, List.not_mem_nil, or_false, or_assoc] at hp); first | (simp [hp]; done) | (with_reducible refine Or.elim hp (fun hp => ?_) (fun hp => ?_) <;> (first | (simp [hp]; done) | (with_reducible refine Or.elim hp (fun hp => ?_) (fun hp => ?_) <;> (first | (simp [hp]; done) | (with_reducible refine Or.elim hp (fun hp => ?_) (fun hp => ?_) <;> (first | (simp [hp]; done) | (with_reducible refine Or.elim hp (fun hp => ?_) (fun hp => ?_) <;> ((simp [hp]; done)))))))))) hoff (hS9 _) ⟨rfl, ?_⟩)
      refine ints_take ?_ hys
      rw [spots, List.getElem?_map]
      show Option.map _ (vowels[i]?) = _
      have : vowels[i]? = some k := hk
      rw [this]
      rfl)
  case done =>
    clear F' N'
    rintro h9 ys nw ⟨rfl, hys⟩
    have hys : IntsAre ys (spots l) := hys
    intro D h tk F' N' hoff
    (try dsimp only)
    (try k_fold)
    repeat' (first | (k_unfold; (try dsimp only)) | ((fail_if_success (with_reducible show Mine.Halt _)); k_end; wrow_close) | walk1 | (dsimp only; walk1) | (leave1; walk_say "STEP leave1"; try dsimp only) | fail "no step")
    refine Halt.out ?_
    refine' list_compT (vs := ys) (nn := ys.length) (fun i zs nw => (D, LCg.lst ys) :: (L' + 1, o9) :: news = nw ∧ IntsAre zs (((spots l).take i).filter (fun p => decide (p > -1)))) ?hh ?hL ?F₁ ?N₁ ?hl ?hsz ?hJ ?hSn ?turn ?done
    case hh => exact rfl
    case hL => exact rfl
    case F₁ => assumption
    case N₁ => assumption
    case hsz => rw [hys.length, sizeLine_eq]; simp [spots, vowels]
    case hl => exact .head _
    case hJ => exact ⟨rfl, .nil⟩
    case hSn => rintro i zs nw ⟨rfl, -⟩; exact .head _
    case turn =>
      clear F' N'
      intro S9 hS9 i zs nw hi hJ9 v I oI C oC D2 m9 h9 tk9 E9 hv9 hC9 hx9 F' N' hoff hne'
      try k_fold
      obtain ⟨rfl, hzs⟩ := hJ9
      obtain ⟨z, t9, rfl, hz⟩ := hys.at i v hv9
      repeat' (first | (k_unfold; (try dsimp only)) | ((fail_if_success (with_reducible show Mine.Halt _)); k_end; wrow_close) | walk1 | (dsimp only; walk1) | (leave1; walk_say "STEP leave1"; try dsimp only) | fail "no step")
      all_goals (
        refine Halt.out (LCg.CompEnd.intro (by assumption) (by assumption) ((D, LCg.lst ys) :: (L' + 1, o9) :: news) (by intro p hp; (try simp only [List.mem_append, List.mem_cons, List.not_mem_nil, or_false, or_assoc] at hp); first | (simp [hp]; done) | (with_reducible refine Or.elim hp (fun hp => ?_) (fun hp => ?_) <;> (first | (simp [hp]; done) | (with_reducible refine Or.elim hp (fun hp => ?_) (fun hp => ?_) <;> (first | (simp [hp]; done) | (with_reducible refine Or.elim hp (fun hp => ?_) (fun hp => ?_) <;> (first | (simp [hp]; done) | (with_reducible refine Or.elim hp (fun hp => ?_) (fun hp => ?_) <;> ((simp [hp]; done)))))))))) hoff (hS9 _ (.head _)) ⟨rfl, ?_⟩)
        first
        | exact ints_filter hz (by assumption) hzs
        | exact ints_skip hz (by assumption) hzs)
    case done =>
      clear F' N'
      rintro h9 zs nw ⟨rfl, hzs⟩
      rw [hys.length, List.take_length] at hzs
      intro D2 h tk F' N' hoff
      (try dsimp only)
      (try k_fold)
      repeat' (first | (k_unfold; (try dsimp only)) | ((fail_if_success (with_reducible show Mine.Halt _)); k_end; wrow_close) | walk1 | (dsimp only; walk1) | (leave1; walk_say "STEP leave1"; try dsimp only) | fail "no step")
      refine Halt.out ?_
      refine kso_min F' N' ⟨_, (N' _ (.head _)).1, rfl, _, rfl⟩ hzs (spots_some hv) rfl ?_
      intro h8 M t8 tk8 F8 N8 hM hm
      have hM0 := vp_pos hM
      have hMz := vp_zero hM hm hne
      repeat' (first | (k_unfold; (try dsimp only)) | ((fail_if_success (with_reducible show Mine.Halt _)); k_end; wrow_close) | walk1 | (dsimp only; walk1) | (leave1; walk_say "STEP leave1"; try dsimp only) | fail "no step")
      all_goals (
        refine hret _ _ _ _ ?_ ?_ (by assumption) (by first | assumption | exact Mine.news_sub (by assumption) (by intro p hp; (try simp only [List.mem_append, List.mem_cons, List.not_mem_nil, or_false, or_assoc] at hp); first | (simp [hp]; done) | (with_reducible refine Or.elim hp (fun hp => ?_) (fun hp => ?_) <;> (first | (simp [hp]; done) | (with_reducible refine Or.elim hp (fun hp => ?_) (fun hp => ?_) <;> (first | (simp [hp]; done) | (with_reducible refine Or.elim hp (fun hp => ?_) (fun hp => ?_) <;> (first | (simp [hp]; done) | (with_reducible refine Or.elim hp (fun hp => ?_) (fun hp => ?_) <;> ((simp [hp]; done)))))))))))
        · omega
        · first
          | exact hMz
          | exact ⟨fun e => absurd e (by omega), fun e => absurd (hMz.mpr e) (by omega)⟩)
end Mine

end
section
namespace Mine
/-- the rules of a list stand as tuples on the ledger -/
noncomputable def Rules (rs : List Rule) (vs : List Value) (news : List (Addr × Obj)) : Prop := Paired (fun r v => ∃ a t1 t2 t3, v = .ref a ∧ (a, tupObj r t1 t2 t3) ∈ news) rs vs
theorem Rules.at {rs : List Rule} {vs : List Value} {news : List (Addr × Obj)} {i : Nat} {v : Value} (h : Rules rs vs news) (hv : vs[i]? = some v) : ∃ r a t1 t2 t3, rs[i]? = some r ∧ v = .ref a ∧ (a, tupObj r t1 t2 t3) ∈ news := by
  unfold Rules at h
  induction h generalizing i with
  | nil => simp at hv
  | cons x r ih =>
    cases i with
    | zero =>
      obtain ⟨a, t1, t2, t3, e, hm⟩ := x
      simp at hv
      exact ⟨_, a, t1, t2, t3, by simp, hv ▸ e, hm⟩
    | succ i =>
      obtain ⟨r, a, t1, t2, t3, h1, h2⟩ := ih (by simpa using hv)
      exact ⟨r, a, t1, t2, t3, by simpa using h1, h2⟩
theorem Rules.mono {rs : List Rule} {vs : List Value} {news news' : List (Addr × Obj)} (h : Rules rs vs news) (hs : ∀ p ∈ news, p ∈ news') : Rules rs vs news' :=
  paired_mono (fun _ _ ⟨a, t1, t2, t3, e, hm⟩ => ⟨a, t1, t2, t3, e, hs _ hm⟩) h
theorem Rules.snoc {rs : List Rule} {vs : List Value} {news : List (Addr × Obj)} {r : Rule} {a : Addr} {t1 t2 t3 : Tok} (h : Rules rs vs news) (hm : (a, tupObj r t1 t2 t3) ∈ news) : Rules (rs ++ [r]) (vs ++ [.ref a]) news := Paired.snoc h ⟨a, t1, t2, t3, rfl, hm⟩
theorem news_dup {h₀ h : Heap} {L : Addr} {news big : List (Addr × Obj)} {p : Addr × Obj} (N : News h₀ L h big) (hm : p ∈ news) (hs : ∀ p ∈ news, p ∈ big) : News h₀ L h (p :: big) := by
  intro q hq
  rcases List.mem_cons.mp hq with rfl | hq
  · exact N _ (hs _ hm)
  · exact N _ hq
structure GoodRule (r : Rule) : Prop where
  e3 : r.ending.length ≤ 3
  g1 : 1 ≤ r.gone
  ge : r.gone ≤ r.ending.length
  n2 : r.given.length ≤ 2
  on : r.onward = true → r.given.length < r.gone
noncomputable def least (l : List Nat) : Nat := if isVowel (l.getD 0 0) then 2 else 3
noncomputable def fitsB (l : List Nat) (b : Bool) (r : Rule) : Bool := r.ending.isSuffixOf l && (b || !r.whole) && decide ((least l : Int) ≤ (l.length : Int) - r.gone + r.given.length)
/-- _law_stemmed -/
noncomputable def stemmed (rs : List Rule) : Nat → List Nat → Bool → Option (List Nat)
  | 0, _, _ => none
  | n + 1, l, b => if voiced l = false then none else
    match rs.filter (fitsB l b) with
    | [] => some l
    | r :: _ => if r.onward then stemmed rs n (l.take (l.length - r.gone) ++ r.given) false else if voiced (l.take (l.length - r.gone) ++ r.given) then some (l.take (l.length - r.gone) ++ r.given) else none
section
variable {prog : Program} {w : World} {A : Around} {E : Value → Shared → Prop} {hp : Heap} {gg : Array GenState} {dr : Drawn} {tk : Nat} {oo : OsState} {env : Env} {Q : Value → Shared → Prop}
theorem ifexp_I {test : PySem.Expr} {a b : Int} {k₁ k₂ : Nat} {p₁ p₂ pos : Pos} (h : wpAny (model prog w) A (isTrue test env (eval test env)) (fun c s₁ => ∀ z t k, z = (if c then a else b) → Q (.int z t) { s₁ with toks := k }) E ⟨hp, gg, dr, tk, oo⟩) :
    wpAny (model prog w) A (eval (.IfExp test (.Constant (.int a) k₁ p₁) (.Constant (.int b) k₂ p₂) pos) env) Q E ⟨hp, gg, dr, tk, oo⟩ := by
  refine IfExp_ (wpAny_mono h (fun c s₁ h₁ => ?_) fun _ _ x => x)
  obtain ⟨h1, h2, h3, h4, h5⟩ := s₁
  cases c with
  | true => exact fun _ _ _ => h₁ _ _ _ rfl
  | false => exact fun _ _ _ => h₁ _ _ _ rfl
end
theorem neAll {c d : Addr} {news : List (Addr × Obj)} (h : ∀ p ∈ news, p.1 < d) (hd : @LE.le Nat _ d c) : ∀ p ∈ news, p.1 ≠ c := fun p hp e => by
  have h1 : @LT.lt Nat _ p.1 d := h p hp
  rw [e] at h1
  exact absurd h1 (Nat.not_lt.mpr hd)
theorem voiced_pos {l : List Nat} (h : voiced l = true) : 0 < l.length := by
  cases l with
  | nil => cases h
  | cons a r => simp
theorem room_n {u n c : Nat} (h : u + (8 + 2 * (n + 1)) < c) : u + 1 + (8 + 2 * n) < c := by omega
theorem units_n {u n c : Nat} (h : u + (100 + 20 * (n + 1)) < c) : u + 3 + (100 + 20 * n) < c := by omega
theorem room_0 {u n c : Nat} (h : u + (8 + 2 * (n + 1)) < c) : u + 10 < c := by omega
theorem units_0 {u n c : Nat} (h : u + (100 + 20 * (n + 1)) < c) : u + 120 < c := by omega
theorem step_lt {l gv : List Nat} {g e n : Nat} (h : l.length < n + 1) (h2 : e ≤ l.length) (h3 : g ≤ e) (h4 : gv.length < g) : (List.take ((l.length : Int) - (g : Int)).toNat l ++ gv).length < n := by
  rw [Int.toNat_sub, List.length_append, List.length_take]
  have := Nat.min_le_left (l.length - g) l.length
  omega
theorem voiced_one (c : Nat) : voiced [c] = isVowel c := by simp [voiced]
theorem fits_take {l : List Nat} {b : Bool} {rs : List Rule} {i : Nat} {r : Rule} (hr : rs[i]? = some r) : (rs.take (i + 1)).filter (fitsB l b) = (rs.take i).filter (fitsB l b) ++ (if fitsB l b r then [r] else []) := by
  rw [List.take_add_one, hr, List.filter_append]
  congr 1
  cases h : fitsB l b r <;> simp [h]
theorem fits_long {l : List Nat} {b : Bool} {r : Rule} (h : fitsB l b r = true) : r.ending.length ≤ l.length := by
  unfold fitsB at h
  simp only [Bool.and_eq_true] at h
  exact (List.isSuffixOf_iff_suffix.mp h.1.1).length_le
end Mine

local macro_rules | `(tactic| k_all) => `(tactic| exact Mine.neAll (by assumption) (by omega))

namespace Mine
theorem stem_step {n : Nat} (ih : ∀ {w : World} {mean : ExcName → Option Value} {mg mb : Str → Option Value} {dp un : Nat} {gd : Option (List Code)} {cn : Str} {cs : Scope} {a : Addr} {ccd : Value} {cl : List (Str × Addr)} {outer : List Env} {A₀ : Around} {base h₀ : Heap} {L : Addr} {m : Str → Option Value} {news : List (Addr × Obj)} {s : Shared} {Q E : Value → Shared → Prop}
    {lo : Addr} {rs : List Rule} {vs : List Value} {l : List Nat} {t : Tok} {b : Bool}
    (B : Below A₀ base outer h₀) (F : Fr h₀ L s.heap m) (X : (hd.heap_39 w.params).In h₀) (N : News h₀ L s.heap news) (T : Top hd.view_39 (looseW hd.view_39 [Str.ofString "_law_starts"]) mean mg mb h₀) (hk : cs.kind = .function)
    (hdp : dp + (8 + 2 * (n)) < recursionLimit) (hun : un + (100 + 20 * (n)) < cLine)
    (hl : l.length < n) (hn : n ≤ 200) (hlo : (lo, LCg.lst vs) ∈ news) (hrs : Rules rs vs news) (hgr : ∀ r ∈ rs, GoodRule r) (hrl : rs.length ≤ 1000)
    (hret : ∀ v h' tk', (∀ x, stemmed rs (n) l b = some x → ∃ t, v = .str (S x) t) → (stemmed rs (n) l b = none → v = .none) → Fr h₀ L h' m → News h₀ L h' news → Q v { s with heap := h', toks := tk' }),
    wpAny (model PySem.Challenge.rw_iv0074_01.row.prog w) (ktrTop dp un gd cn cs L a ccd cl outer) (call (.ref 121) [.ref lo, .str (S l) t, .bool b]) Q E s) {w : World} {mean : ExcName → Option Value} {mg mb : Str → Option Value} {dp un : Nat} {gd : Option (List Code)} {cn : Str} {cs : Scope} {a : Addr} {ccd : Value} {cl : List (Str × Addr)} {outer : List Env} {A₀ : Around} {base h₀ : Heap} {L : Addr} {m : Str → Option Value} {news : List (Addr × Obj)} {s : Shared} {Q E : Value → Shared → Prop}
    {lo : Addr} {rs : List Rule} {vs : List Value} {l : List Nat} {t : Tok} {b : Bool}
    (B : Below A₀ base outer h₀) (F : Fr h₀ L s.heap m) (X : (hd.heap_39 w.params).In h₀) (N : News h₀ L s.heap news) (T : Top hd.view_39 (looseW hd.view_39 [Str.ofString "_law_starts"]) mean mg mb h₀) (hk : cs.kind = .function)
    (hdp : dp + (8 + 2 * (n + 1)) < recursionLimit) (hun : un + (100 + 20 * (n + 1)) < cLine)
    (hl : l.length < n + 1) (hn : n + 1 ≤ 200) (hlo : (lo, LCg.lst vs) ∈ news) (hrs : Rules rs vs news) (hgr : ∀ r ∈ rs, GoodRule r) (hrl : rs.length ≤ 1000)
    (hret : ∀ v h' tk', (∀ x, stemmed rs (n + 1) l b = some x → ∃ t, v = .str (S x) t) → (stemmed rs (n + 1) l b = none → v = .none) → Fr h₀ L h' m → News h₀ L h' news → Q v { s with heap := h', toks := tk' }) :
    wpAny (model PySem.Challenge.rw_iv0074_01.row.prog w) (ktrTop dp un gd cn cs L a ccd cl outer) (call (.ref 121) [.ref lo, .str (S l) t, .bool b]) Q E s := by
  have hretN : stemmed rs (n + 1) l b = none → ∀ h' tk', Fr h₀ L h' m → News h₀ L h' news → Q .none { s with heap := h', toks := tk' } := fun e h' tk' F N => hret _ h' tk' (fun x hx => by rw [e] at hx; cases hx) (fun _ => rfl) F N
  have hretS : ∀ x, stemmed rs (n + 1) l b = some x → ∀ t h' tk', Fr h₀ L h' m → News h₀ L h' news → Q (.str (S x) t) { s with heap := h', toks := tk' } := fun x e t h' tk' F N => hret _ h' tk' (fun y hy => by rw [e] at hy; cases hy; exact ⟨t, rfl⟩) (fun hx => by rw [e] at hx; cases hx) F N
  w_top off
  k_with_none
  (k_with "eval Constant str" => (k_here; first | (with_reducible refine Mine.const_S Mine.lit_0 ?_) | (with_reducible refine Mine.const_S Mine.lit_1 ?_) | (with_reducible refine Mine.const_S Mine.lit_2 ?_) | (with_reducible refine Mine.const_S Mine.lit_3 ?_) | (with_reducible refine Mine.const_S Mine.lit_4 ?_) | (with_reducible refine Mine.const_S Mine.lit_5 ?_) | (with_reducible refine Mine.const_S Mine.lit_6 ?_) | (with_reducible refine Mine.const_S Mine.lit_7 ?_) | (with_reducible refine Mine.const_S Mine.lit_8 ?_) | (with_reducible refine Mine.const_S Mine.lit_9 ?_) | (with_reducible refine Mine.const_S Mine.lit_10 ?_) | (with_reducible refine Mine.const_S Mine.lit_11 ?_) | (with_reducible refine Mine.const_S Mine.lit_12 ?_) | (with_reducible refine Mine.const_S Mine.lit_13 ?_) | (with_reducible refine Mine.const_S Mine.lit_14 ?_) | (with_reducible refine Mine.const_S Mine.lit_15 ?_) | (with_reducible refine Mine.const_S Mine.lit_16 ?_) | (with_reducible refine Mine.const_S Mine.lit_17 ?_) | (with_reducible refine Mine.const_S Mine.lit_18 ?_) | (with_reducible refine Mine.const_S Mine.lit_19 ?_) | (with_reducible refine Mine.const_S Mine.lit_20 ?_) | (with_reducible refine Mine.const_S Mine.lit_21 ?_) | (with_reducible refine Mine.const_S Mine.lit_22 ?_) | (with_reducible refine Mine.const_S Mine.lit_23 ?_) | (with_reducible refine Mine.const_S Mine.lit_24 ?_) | (with_reducible refine Mine.const_S Mine.lit_25 ?_) | (with_reducible refine Mine.const_S Mine.lit_26 ?_) | (with_reducible refine Mine.const_S Mine.lit_27 ?_) | (with_reducible refine Mine.const_S Mine.lit_28 ?_) | (with_reducible refine Mine.const_S Mine.lit_29 ?_) | (with_reducible refine Mine.const_S Mine.lit_30 ?_) | (with_reducible refine Mine.const_S Mine.lit_31 ?_) | (with_reducible refine Mine.const_S Mine.lit_32 ?_) | (with_reducible refine Mine.const_S Mine.lit_33 ?_) | (with_reducible refine Mine.const_S Mine.lit_34 ?_); intro _ _))
  (k_with "eval IfExp" => (k_here; first | (with_reducible refine Mine.ifexp_S Mine.lit_7 Mine.lit_12 (by decide) (by decide) ?_) | (with_reducible refine Mine.ifexp_S Mine.lit_9 Mine.lit_8 (by decide) (by decide) ?_)))
  (k_with "call builtin:len" => (k_here; (with_reducible show wpAny _ _ (call (Value.builtin "len") [Value.str (Mine.S _) _]) _ _ _); (refine Mine.len_S (by walk_at "OM") ?_); intro _ _))
  (k_with "truthy str" => (k_here; (with_reducible show wpAny _ _ (PySem.truthy (Value.str (Mine.S _) _)) _ _ _); (refine Mine.truthy_S (by walk_at "OM") ?_); intro _))
  (k_with "compareOp LtE str str" => (k_here; (with_reducible refine Mine.le_S ?_)))
  (k_with "compareOp Eq str str" => (k_here; (with_reducible refine Mine.eq_SS ?_)))
  (k_with "compareOp NotEq str str" => (k_here; (with_reducible refine Mine.ne_SS ?_)))
  (k_with "compareOp NotIn str str" => (k_here; (with_reducible refine Mine.notin_S ?_)))
  (k_with "binaryOp Add str str" => (k_here; (with_reducible show wpAny _ _ (binaryOp Operator.Add (Value.str (Mine.S _) _) (Value.str (Mine.S _) _)) _ _ _); (refine Mine.add_S (by walk_at "OM") ?_); intro _ _))
  (k_with "call builtin:str.find" => (k_here; (with_reducible refine Mine.find_SS ?_); intro _ _))
  (k_with "call builtin:str.startswith" => (k_here; (with_reducible refine Mine.starts_SS ?_)))
  (k_with "call builtin:str.endswith" => (k_here; (with_reducible refine Mine.ends_SS ?_)))
  (k_with "call builtin:str.strip" => (k_here; (with_reducible show wpAny _ _ (call (Value.builtin "str.strip") [Value.str (Mine.S _) _]) _ _ _); (refine Mine.strip_SS (by walk_at "OM") ?_); intro _ _))
  (k_with "subscriptTail Name Name str int" => (k_here; (with_reducible show wpAny _ _ (subscriptTail _ _ (Value.str (Mine.S _) _) (Value.int _ _)) _ _ _); (refine Mine.item_SS (by walk_at "OM") (by walk_at "OM") (by walk_at "OM") ?_); intro _ _))
  (k_with "subscriptTail Name Constant str int" => (k_here; (with_reducible show wpAny _ _ (subscriptTail _ _ (Value.str (Mine.S _) _) (Value.int _ _)) _ _ _); (refine Mine.item_SS (by walk_at "OM") (by walk_at "OM") (by walk_at "OM") ?_); intro _ _))
  (k_with "subscriptTail Name BinOp str int" => (k_here; (with_reducible show wpAny _ _ (subscriptTail _ _ (Value.str (Mine.S _) _) (Value.int _ _)) _ _ _); (refine Mine.item_SS (by walk_at "OM") (by walk_at "OM") (by walk_at "OM") ?_); intro _ _))
  (k_with "subscriptTail Name UnaryOp str int" => (k_here; (with_reducible show wpAny _ _ (subscriptTail _ _ (Value.str (Mine.S _) _) (Value.int (-1) _)) _ _ _); (refine Mine.item_SL ?_ (by walk_at "OM") ?_); rotate_left; intro _ _))
  (k_with "subscriptTail Name Name str int" => (k_here; (with_reducible show wpAny _ _ (subscriptTail _ _ (Value.str (Str.ofString _) _) (Value.int _ _)) _ _ _); (refine Mine.item_lit Mine.lit_34 (by (first | omega | exact fmod_lo _ (by decide) | exact fmod_hi _ (by decide) | fail "no bound")) (by (first | omega | exact fmod_lo _ (by decide) | exact fmod_hi _ (by decide) | fail "no bound")) (by decide) ?_); intro _ _))
  (k_with "subscriptTail Name Slice str ref" => (k_here; (with_reducible show wpAny _ _ (subscriptTail _ (Expr.Slice none (some _) none _) (Value.str (Mine.S _) _) _) _ _ _); (with_reducible rename Fr _ _ _ _ => wF); (with_reducible rename News _ _ _ _ => wN); (first | (refine Mine.slice_SS_to wF wN (by walk_at "OM") (by walk_at "OM") ?_) | (refine Mine.slice_SS_neg wF wN (by walk_at "OM") (by walk_at "OM") (by walk_at "OM") ?_)); intro _ _ _ _ _))
  (k_with "subscriptTail Name Slice str ref" => (k_here; (with_reducible show wpAny _ _ (subscriptTail _ (Expr.Slice (some _) none none _) (Value.str (Mine.S _) _) _) _ _ _); (with_reducible rename Fr _ _ _ _ => wF); (with_reducible rename News _ _ _ _ => wN); (refine Mine.slice_SS_from wF wN (by walk_at "OM") (by walk_at "OM") ?_); intro _ _ _ _ _))
  (k_with "subscriptTail Name Slice str ref" => (k_here; (with_reducible show wpAny _ _ (subscriptTail _ (Expr.Slice (some _) (some _) none _) (Value.str (Mine.S _) _) _) _ _ _); (with_reducible rename Fr _ _ _ _ => wF); (with_reducible rename News _ _ _ _ => wN); (refine Mine.slice_SS_mid wF wN (by walk_at "OM") (by walk_at "OM") (by walk_at "OM") (by walk_at "OM") ?_); intro _ _ _ _ _))
  (k_with "subscriptTail Name Slice str ref" => (k_here; (with_reducible show wpAny _ _ (subscriptTail _ (Expr.Slice none none (some _) _) (Value.str (Mine.S _) _) _) _ _ _); (with_reducible rename Fr _ _ _ _ => wF); (with_reducible rename News _ _ _ _ => wN); (refine Mine.slice_SS_rev wF wN (by walk_at "OM") ?_); intro _ _ _ _ _))
  (k_with "subscriptTail BinOp Slice str ref" => (k_here; (with_reducible show wpAny _ _ (subscriptTail _ (Expr.Slice none (some _) none _) (Value.str (Mine.S _) _) _) _ _ _); (with_reducible rename Fr _ _ _ _ => wF); (with_reducible rename News _ _ _ _ => wN); (first | (refine Mine.slice_SS_to wF wN (by walk_at "OM") (by walk_at "OM") ?_) | (refine Mine.slice_SS_neg wF wN (by walk_at "OM") (by walk_at "OM") (by walk_at "OM") ?_)); intro _ _ _ _ _))
  (k_with "subscriptTail BinOp Slice str ref" => (k_here; (with_reducible show wpAny _ _ (subscriptTail _ (Expr.Slice (some _) none none _) (Value.str (Mine.S _) _) _) _ _ _); (with_reducible rename Fr _ _ _ _ => wF); (with_reducible rename News _ _ _ _ => wN); (refine Mine.slice_SS_from wF wN (by walk_at "OM") (by walk_at "OM") ?_); intro _ _ _ _ _))
  (k_with "subscriptTail BinOp Slice str ref" => (k_here; (with_reducible show wpAny _ _ (subscriptTail _ (Expr.Slice (some _) (some _) none _) (Value.str (Mine.S _) _) _) _ _ _); (with_reducible rename Fr _ _ _ _ => wF); (with_reducible rename News _ _ _ _ => wN); (refine Mine.slice_SS_mid wF wN (by walk_at "OM") (by walk_at "OM") (by walk_at "OM") (by walk_at "OM") ?_); intro _ _ _ _ _))
  (k_with "subscriptTail BinOp Slice str ref" => (k_here; (with_reducible show wpAny _ _ (subscriptTail _ (Expr.Slice none none (some _) _) (Value.str (Mine.S _) _) _) _ _ _); (with_reducible rename Fr _ _ _ _ => wF); (with_reducible rename News _ _ _ _ => wN); (refine Mine.slice_SS_rev wF wN (by walk_at "OM") ?_); intro _ _ _ _ _))
  (k_with "pyIter ref" => ((with_reducible show wpAny _ _ (pyIter (Value.ref _)) (fun _ _ => LoopAtV _ _ _ _ _ _ _ _ _ _ _) _ _); refine Mine.Halt.go ?_))
  (k_with "pyIter str" => ((with_reducible show wpAny _ _ (pyIter (Value.str _ _)) (fun _ _ => LoopAtV _ _ _ _ _ _ _ _ _ _ _) _ _); refine Mine.Halt.go ?_))
  (k_with "exec For Name Name cons nil" => (k_here; (rename Fr _ _ _ _ => wlF); (with_unfolding_all refine For_invVF wlF (by exact rfl) (by exact rfl) ?_; k_whole)))
  (k_with "exec For Name Call cons nil" => (k_here; (rename Fr _ _ _ _ => wlF); (with_unfolding_all refine For_invVF wlF (by exact rfl) (by exact rfl) ?_; k_whole)))
  (k_with "exec For Name Subscript cons nil" => (k_here; (rename Fr _ _ _ _ => wlF); (with_unfolding_all refine For_invVF wlF (by exact rfl) (by exact rfl) ?_; k_whole)))
  (k_with "exec For Name Tuple cons nil" => (k_here; (rename Fr _ _ _ _ => wlF); (with_unfolding_all refine For_invVF wlF (by exact rfl) (by exact rfl) ?_; k_whole)))
  (k_with "KswEnd" => (refine Mine.Halt.go ?_))
  (k_with "ExitPost" => (refine Mine.Halt.go ?_))
  (k_with "LcEnd" => (refine Mine.Halt.go ?_))
  (k_with "LcBrk" => (refine Mine.Halt.go ?_))
  (k_with "LcPost" => (dsimp only [Mine.LcPost]))
  (k_with "eval ListComp" => (k_here; first | ((with_reducible show wpAny _ _ (eval (Expr.ListComp _ [⟨_, _, [], _⟩] _ _) _) _ _ _); k_dflt (refine Mine.comp_EU (by with_unfolding_all rfl) (by decide) (by rfl) (by decide) (by rfl) ?_)) | ((with_reducible show wpAny _ _ (eval (Expr.ListComp _ [⟨_, _, [_], _⟩] _ _) _) _ _ _); k_dflt (refine Mine.comp_ET (by with_unfolding_all rfl) (by decide) (by rfl) (by decide) (by rfl) ?_))))
  (k_with "exec Assign cons ListComp" => (k_here; first | ((with_reducible show wpAny _ _ (exec (Stmt.Assign _ (Expr.ListComp _ [⟨_, _, [], _⟩] _ _) _) _) _ _ _); k_dflt (refine Mine.comp_AU (by with_unfolding_all rfl) (by with_unfolding_all rfl) (by decide) (by rfl) (by decide) (by rfl) (by rfl) (by rfl) ?_)) | ((with_reducible show wpAny _ _ (exec (Stmt.Assign _ (Expr.ListComp _ [⟨_, _, [_], _⟩] _ _) _) _) _ _ _); k_dflt (refine Mine.comp_AT (by with_unfolding_all rfl) (by with_unfolding_all rfl) (by decide) (by rfl) (by decide) (by rfl) (by rfl) (by rfl) ?_))))
  (k_with "pyIter ref" => (first | ((with_reducible show wpAny _ _ (pyIter (Value.ref _)) (Mine.CompAtT _ _ _ _ _ _ _ _ _ _) _ _); refine Mine.Halt.go ?_) | ((with_reducible show wpAny _ _ (pyIter (Value.ref _)) (Mine.CompAtU _ _ _ _ _ _ _ _ _) _ _); refine Mine.Halt.go ?_)))
  (k_with "pyIter str" => (first | ((with_reducible show wpAny _ _ (pyIter (Value.str _ _)) (Mine.CompAtT _ _ _ _ _ _ _ _ _ _) _ _); refine Mine.Halt.go ?_) | ((with_reducible show wpAny _ _ (pyIter (Value.str _ _)) (Mine.CompAtU _ _ _ _ _ _ _ _ _) _ _); refine Mine.Halt.go ?_)))
  (k_with "TestPost" => (refine And.intro (fun whb => ?_) (fun whb => ?_) <;> (try (exact absurd whb (by decide)))))
  (k_with "CompEnd" => (refine Mine.Halt.go ?_))
  (k_with "FinE" => (refine Mine.Halt.go ?_))
  (k_with "FinA" => (refine Mine.Halt.go ?_))
  (k_with "compareOp NotEq ref ref" => (k_here; refine Mine.ne_nil (by k_asm) (by k_mem) (by k_mem) (by ktr_units) ?_))
  (k_with "compareOp Eq ref ref" => (k_here; refine Mine.eq_nil (by k_asm) (by k_mem) (by k_mem) (by ktr_units) ?_))
  (k_with "eval IfExp" => (k_here; (with_reducible refine Mine.ifexp_I ?_)))
  (k_with "call ref" => (k_here; (with_reducible show wpAny _ _ (call (Value.ref 109) [Value.str (Mine.S _) _]) _ _ _); k_dflt (first | (refine Mine.c_law_voiced  (by k_asm) (by k_asm) (by k_asm) (by k_asm) (by k_asm) (by first | exact rfl | assumption) (by ktr_room) (by ktr_units) (by walk_at "OM") ?_; k_whole; intro _ _ _ _; (try dsimp only); (try k_sweep); (try k_fold)))))
  (k_with "call ref" => ((with_reducible show wpAny _ _ (call (Value.ref 121) _) _ _ _); refine Mine.Halt.go ?_))
  have hdp' := room_0 hdp
  have hun' := units_0 hun
  have hl200 : l.length ≤ 200 := Nat.le_trans (Nat.le_of_lt hl) hn
  revert X
  k_fill
  intro X
  refine wpAny_call ?_
  k_dflt (refine' code_defC ?k1 ?k2 ?k3 ?k4 ?k5 ?kA ?kF ?kK ?k6 ?k7 ?k8 ?k9 ?kB ?kD ?_ ?c2 ?c3 ?c4; (case kA => exact rfl); (case kF => exact rfl); (case kK => assumption); (case k1 => k_asm); (case k2 => k_asm); (case k3 => k_asm); (case k4 => k_asm); (case k5 => k_asm); (case k6 => k_is); (case k7 => k_is); (case k8 => ktr_room); (case k9 => exact BindsTo.of_eq rfl); (case kB => exact rfl); (case kD => decide +kernel); (case c2 => exact rfl); (case c3 => exact rfl); (case c4 => exact rfl); k_whole; intro g' L' h' tk' cells' FG' F' N' Y' B' X' T' l1; (try k_lt l1); k_cells Y'; (try simp only [List.cons_append, List.nil_append] at N'); (try dsimp only); (try k_lift B'); (try k_fold))
  rename_i o1 o2 o3 d1 d2 d3
  replace F' : Fr g' L' h' (kstB (fun _ => none) [(Str.ofString "orders", .ref lo)]) := by with_unfolding_all exact F'
  replace d1 : o1.data = .cell none := by with_unfolding_all exact d1
  replace d2 : o2.data = .cell (some (.bool b)) := by with_unfolding_all exact d2
  replace d3 : o3.data = .cell (some (.str (S l) t)) := by with_unfolding_all exact d3
  repeat' (first | (k_unfold; (try dsimp only)) | ((fail_if_success (with_reducible show Mine.Halt _)); k_end; wrow_close) | walk1 | (dsimp only; walk1) | (leave1; walk_say "STEP leave1"; try dsimp only) | fail "no step")
  rotate_left
  · refine hretN ?_ _ _ (by assumption) (by first | assumption | exact Mine.news_sub (by assumption) (by intro p hp; (try simp only [List.mem_append, List.mem_cons, List.not_mem_nil, or_false, or_assoc] at hp); first | (simp [hp]; done) | (with_reducible refine Or.elim hp (fun hp => ?_) (fun hp => ?_) <;> (first | (simp [hp]; done) | (with_reducible refine Or.elim hp (fun hp => ?_) (fun hp => ?_) <;> (first | (simp [hp]; done) | (with_reducible refine Or.elim hp (fun hp => ?_) (fun hp => ?_) <;> (first | (simp [hp]; done) | (with_reducible refine Or.elim hp (fun hp => ?_) (fun hp => ?_) <;> ((simp [hp]; done)))))))))))
    rw [stemmed, if_pos (by assumption)]
  rename_i hvo
  have hpos : 0 < l.length := voiced_pos hvo
  repeat' (first | (k_unfold; (try dsimp only)) | ((fail_if_success (with_reducible show Mine.Halt _)); k_end; wrow_close) | walk1 | (dsimp only; walk1) | (leave1; walk_say "STEP leave1"; try dsimp only) | fail "no step")
  all_goals (
    (with_reducible rename (Obj.data _ = Data.cell (some (Value.int _ _))) => d4)
    (with_reducible rename Obj => o4)
    (with_reducible rename Fr _ _ _ _ => hF)
    (with_reducible rename News _ _ _ _ => hN)
    (with_reducible rename (_ = ite _ _ _) => hv1)
    have hls : (if voiced [l.getD (Int.toNat 0) 0] = true then (2 : Int) else 3) = ((least l : Nat) : Int) := by
      rw [voiced_one]
      unfold least
      show (if isVowel (l.getD 0 0) = true then (2 : Int) else 3) = _
      split <;> rfl
    rw [hv1.trans hls] at d4
    clear hv1 d1
    refine Halt.out ?_
    refine' list_compT (vs := vs) (nn := vs.length) (fun i zs nw => (L' + 1 + 1 + 1, o4) :: (L' + 1 + 1, o2) :: (L' + 1, o3) :: news = nw ∧ Rules ((rs.take i).filter (fitsB l b)) zs news) ?hh ?hL ?F₁ ?N₁ ?hl ?hsz ?hJ ?hSn ?turn ?done
    case hh => exact rfl
    case hL => exact rfl
    case F₁ => exact hF
    case N₁ => exact hN
    case hl => exact .tail _ (.tail _ (.tail _ hlo))
    case hsz => rw [← Paired.length hrs, sizeLine_eq]; exact Nat.le_trans hrl (by decide)
    case hJ => exact ⟨rfl, .nil⟩
    case hSn => rintro i zs nw ⟨rfl, -⟩; exact .tail _ (.tail _ (.tail _ hlo))
    case turn =>
      clear hF hN
      intro S9 hS9 i zs nw hi hJ9 v I oI C oC D2 m9 h9 tk9 E9 hv9 hC9 hx9 F' N' hoff hne'
      try k_fold
      obtain ⟨rfl, hzs⟩ := hJ9
      obtain ⟨r, ra, t1, t2, t3, hr, rfl, hm⟩ := hrs.at hv9
      obtain ⟨e3, g1, ge, n2, on⟩ := hgr r (List.mem_of_getElem? hr)
      replace N' := news_dup N' hm (by intro p hp; (try simp only [List.mem_append, List.mem_cons, List.not_mem_nil, or_false, or_assoc] at hp); first | (simp [hp]; done) | (with_reducible refine Or.elim hp (fun hp => ?_) (fun hp => ?_) <;> (first | (simp [hp]; done) | (with_reducible refine Or.elim hp (fun hp => ?_) (fun hp => ?_) <;> (first | (simp [hp]; done) | (with_reducible refine Or.elim hp (fun hp => ?_) (fun hp => ?_) <;> (first | (simp [hp]; done) | (with_reducible refine Or.elim hp (fun hp => ?_) (fun hp => ?_) <;> ((simp [hp]; done))))))))))
      have hft := fits_take (l := l) (b := b) hr
      dsimp only [tupObj] at N'
      repeat' (first | (k_unfold; (try dsimp only)) | ((fail_if_success (with_reducible show Mine.Halt _)); k_end; wrow_close) | walk1 | (dsimp only; walk1) | (leave1; walk_say "STEP leave1"; try dsimp only) | fail "no step")
      all_goals (
        refine Halt.out (LCg.CompEnd.intro (by assumption) (by assumption) ((L' + 1 + 1 + 1, o4) :: (L' + 1 + 1, o2) :: (L' + 1, o3) :: news) (by intro p hp; (try simp only [List.mem_append, List.mem_cons, List.not_mem_nil, or_false, or_assoc] at hp); first | (simp [hp]; done) | (with_reducible refine Or.elim hp (fun hp => ?_) (fun hp => ?_) <;> (first | (simp [hp]; done) | (with_reducible refine Or.elim hp (fun hp => ?_) (fun hp => ?_) <;> (first | (simp [hp]; done) | (with_reducible refine Or.elim hp (fun hp => ?_) (fun hp => ?_) <;> (first | (simp [hp]; done) | (with_reducible refine Or.elim hp (fun hp => ?_) (fun hp => ?_) <;> ((simp [hp]; done)))))))))) hoff (hS9 _ (.tail _ (.tail _ (.tail _ hlo)))) ⟨rfl, ?_⟩)
        rw [hft]
        first
        | (rw [if_pos (by unfold fitsB; simp [*]; done)]; exact hzs.snoc hm)
        | (rw [if_neg (by unfold fitsB; simp [*]; done), List.append_nil]; exact hzs)
        | fail "no end")
    case done =>
      clear hF hN
      rintro h9 zs nw ⟨rfl, hzs⟩
      rw [← Paired.length hrs, List.take_length] at hzs
      intro D h tk F' N' hoff
      (try dsimp only)
      (try k_fold)
      simp only [LCg.Off1, and_true] at hoff
      have hst : ∀ fl, rs.filter (fitsB l b) = fl → stemmed rs (n + 1) l b = (match fl with | [] => some l | r :: _ => if r.onward then stemmed rs n (l.take (l.length - r.gone) ++ r.given) false else if voiced (l.take (l.length - r.gone) ++ r.given) then some (l.take (l.length - r.gone) ++ r.given) else none) := by
        intro fl e
        rw [stemmed, if_neg (by rw [hvo]; exact Bool.noConfusion), e]
      generalize hfl : rs.filter (fitsB l b) = fl at hzs
      replace hst := hst fl hfl
      unfold Rules at hzs
      cases hzs with
      | nil =>
        repeat' (first | (k_unfold; (try dsimp only)) | ((fail_if_success (with_reducible show Mine.Halt _)); k_end; wrow_close) | walk1 | (dsimp only; walk1) | (leave1; walk_say "STEP leave1"; try dsimp only) | fail "no step")
        all_goals first
        | (refine hretS l hst _ _ _ (by assumption) (by first | assumption | exact Mine.news_sub (by assumption) (by intro p hp; (try simp only [List.mem_append, List.mem_cons, List.not_mem_nil, or_false, or_assoc] at hp); first | (simp [hp]; done) | (with_reducible refine Or.elim hp (fun hp => ?_) (fun hp => ?_) <;> (first | (simp [hp]; done) | (with_reducible refine Or.elim hp (fun hp => ?_) (fun hp => ?_) <;> (first | (simp [hp]; done) | (with_reducible refine Or.elim hp (fun hp => ?_) (fun hp => ?_) <;> (first | (simp [hp]; done) | (with_reducible refine Or.elim hp (fun hp => ?_) (fun hp => ?_) <;> ((simp [hp]; done))))))))))))
        | (exfalso; rename_i hx; exact hx rfl)
      | cons x xs =>
        rename_i r v rr vr
        obtain ⟨ra, t1, t2, t3, rfl, hm⟩ := x
        have hmem : r ∈ rs.filter (fitsB l b) := by rw [hfl]; exact .head _
        obtain ⟨hr1, hr2⟩ := List.mem_filter.mp hmem
        have hlong := fits_long hr2
        obtain ⟨e3, g1, ge, n2, on⟩ := hgr r hr1
        replace N' := news_dup N' hm (by intro p hp; (try simp only [List.mem_append, List.mem_cons, List.not_mem_nil, or_false, or_assoc] at hp); first | (simp [hp]; done) | (with_reducible refine Or.elim hp (fun hp => ?_) (fun hp => ?_) <;> (first | (simp [hp]; done) | (with_reducible refine Or.elim hp (fun hp => ?_) (fun hp => ?_) <;> (first | (simp [hp]; done) | (with_reducible refine Or.elim hp (fun hp => ?_) (fun hp => ?_) <;> (first | (simp [hp]; done) | (with_reducible refine Or.elim hp (fun hp => ?_) (fun hp => ?_) <;> ((simp [hp]; done))))))))))
        have hra : @LT.lt Nat _ ra L' := l1 _ hm
        dsimp only [tupObj] at N'
        dsimp only at hst
        rw [← Int.toNat_sub l.length r.gone] at hst
        repeat' (first | (k_unfold; (try dsimp only)) | ((fail_if_success (with_reducible show Mine.Halt _)); k_end; wrow_close) | walk1 | (dsimp only; walk1) | (leave1; walk_say "STEP leave1"; try dsimp only) | fail "no step")
        all_goals first
          | (exact absurd (by assumption) (List.cons_ne_nil _ _))
          | (refine hretS _ ?_ _ _ _ (by assumption) (by first | assumption | exact Mine.news_sub (by assumption) (by intro p hp; (try simp only [List.mem_append, List.mem_cons, List.not_mem_nil, or_false, or_assoc] at hp); first | (simp [hp]; done) | (with_reducible refine Or.elim hp (fun hp => ?_) (fun hp => ?_) <;> (first | (simp [hp]; done) | (with_reducible refine Or.elim hp (fun hp => ?_) (fun hp => ?_) <;> (first | (simp [hp]; done) | (with_reducible refine Or.elim hp (fun hp => ?_) (fun hp => ?_) <;> (first | (simp [hp]; done) | (with_reducible refine Or.elim hp (fun hp => ?_) (fun hp => ?_) <;> ((simp [hp]; done)))))))))))
             rw [hst, if_neg (by rw [Bool.not_eq_true]; assumption), if_pos (by assumption)])
          | (refine hretN ?_ _ _ (by assumption) (by first | assumption | exact Mine.news_sub (by assumption) (by intro p hp; (try simp only [List.mem_append, List.mem_cons, List.not_mem_nil, or_false, or_assoc] at hp); first | (simp [hp]; done) | (with_reducible refine Or.elim hp (fun hp => ?_) (fun hp => ?_) <;> (first | (simp [hp]; done) | (with_reducible refine Or.elim hp (fun hp => ?_) (fun hp => ?_) <;> (first | (simp [hp]; done) | (with_reducible refine Or.elim hp (fun hp => ?_) (fun hp => ?_) <;> (first | (simp [hp]; done) | (with_reducible refine Or.elim hp (fun hp => ?_) (fun hp => ?_) <;> ((simp [hp]; done)))))))))))
             rw [hst, if_neg (by rw [Bool.not_eq_true]; assumption), if_neg (by rw [Bool.not_eq_true]; assumption)])
          | (refine Halt.out ?_
             have honw : r.onward = true := by assumption
             have hon := on honw
             refine' ih ?kB ?kF ?kX ?kN ?kT ?kK ?kd ?ku ?s1 ?s2 ?s3 ?s4 hgr hrl ?kr
             case kB => k_asm
             case kF => k_asm
             case kX => k_asm
             case kN => k_asm
             case kT => k_asm
             case kK => first | exact rfl | assumption
             case kd => exact room_n hdp
             case ku => exact units_n hun
             case s1 => exact step_lt hl hlong ge hon
             case s2 => exact Nat.le_of_succ_le hn
             case s3 => exact .tail _ (.tail _ (.tail _ (.tail _ (.tail _ (.tail _ hlo)))))
             case s4 => exact hrs.mono (by intro p hp; (try simp only [List.mem_append, List.mem_cons, List.not_mem_nil, or_false, or_assoc] at hp); first | (simp [hp]; done) | (with_reducible refine Or.elim hp (fun hp => ?_) (fun hp => ?_) <;> (first | (simp [hp]; done) | (with_reducible refine Or.elim hp (fun hp => ?_) (fun hp => ?_) <;> (first | (simp [hp]; done) | (with_reducible refine Or.elim hp (fun hp => ?_) (fun hp => ?_) <;> (first | (simp [hp]; done) | (with_reducible refine Or.elim hp (fun hp => ?_) (fun hp => ?_) <;> ((simp [hp]; done))))))))))
             case kr =>
               intro v8 h8 tk8 hs8 hn8 F8 N8
               repeat' (first | (k_unfold; (try dsimp only)) | ((fail_if_success (with_reducible show Mine.Halt _)); k_end; wrow_close) | walk1 | (dsimp only; walk1) | (leave1; walk_say "STEP leave1"; try dsimp only) | fail "no step")
               refine hret v8 _ _ ?_ ?_ (by assumption) (by first | assumption | exact Mine.news_sub (by assumption) (by intro p hp; (try simp only [List.mem_append, List.mem_cons, List.not_mem_nil, or_false, or_assoc] at hp); first | (simp [hp]; done) | (with_reducible refine Or.elim hp (fun hp => ?_) (fun hp => ?_) <;> (first | (simp [hp]; done) | (with_reducible refine Or.elim hp (fun hp => ?_) (fun hp => ?_) <;> (first | (simp [hp]; done) | (with_reducible refine Or.elim hp (fun hp => ?_) (fun hp => ?_) <;> (first | (simp [hp]; done) | (with_reducible refine Or.elim hp (fun hp => ?_) (fun hp => ?_) <;> ((simp [hp]; done)))))))))))
               · intro x hx; rw [hst, if_pos honw] at hx; exact hs8 x hx
               · intro hx; rw [hst, if_pos honw] at hx; exact hn8 hx)
          )
theorem c_law_stemmed : ∀ n : Nat, ∀ {w : World} {mean : ExcName → Option Value} {mg mb : Str → Option Value} {dp un : Nat} {gd : Option (List Code)} {cn : Str} {cs : Scope} {a : Addr} {ccd : Value} {cl : List (Str × Addr)} {outer : List Env} {A₀ : Around} {base h₀ : Heap} {L : Addr} {m : Str → Option Value} {news : List (Addr × Obj)} {s : Shared} {Q E : Value → Shared → Prop}
    {lo : Addr} {rs : List Rule} {vs : List Value} {l : List Nat} {t : Tok} {b : Bool}
    (B : Below A₀ base outer h₀) (F : Fr h₀ L s.heap m) (X : (hd.heap_39 w.params).In h₀) (N : News h₀ L s.heap news) (T : Top hd.view_39 (looseW hd.view_39 [Str.ofString "_law_starts"]) mean mg mb h₀) (hk : cs.kind = .function)
    (hdp : dp + (8 + 2 * (n)) < recursionLimit) (hun : un + (100 + 20 * (n)) < cLine)
    (hl : l.length < n) (hn : n ≤ 200) (hlo : (lo, LCg.lst vs) ∈ news) (hrs : Rules rs vs news) (hgr : ∀ r ∈ rs, GoodRule r) (hrl : rs.length ≤ 1000)
    (hret : ∀ v h' tk', (∀ x, stemmed rs (n) l b = some x → ∃ t, v = .str (S x) t) → (stemmed rs (n) l b = none → v = .none) → Fr h₀ L h' m → News h₀ L h' news → Q v { s with heap := h', toks := tk' }),
    wpAny (model PySem.Challenge.rw_iv0074_01.row.prog w) (ktrTop dp un gd cn cs L a ccd cl outer) (call (.ref 121) [.ref lo, .str (S l) t, .bool b]) Q E s := by
  intro n
  induction n with
  | zero => intros; rename_i hl _ _ _ _ _ _; exact absurd hl (Nat.not_lt_zero _)
  | succ n ih => exact stem_step ih
end Mine

end
section
open PySem.Calls
namespace Mine
noncomputable def lastIs (k : Nat) (r : Rule) : Bool := decide (r.ending.getLast? = some k)
/-- a rule as it is kept: its ending the right way round -/
noncomputable def turned (r : Rule) : Rule := { r with ending := r.ending.reverse }
noncomputable abbrev blank : Nat → Bool := Unicode.isSpace
/-- the rules of a table's lines -/
noncomputable def tableOf : List (List Nat) → Option (List Rule)
  | [] => some []
  | x :: r => if stripL blank x = [] then tableOf r else match readRule (stripL blank x) with
    | none => none
    | some q => (tableOf r).map (turned q :: ·)
/-- the same, line by line -/
noncomputable def tableUp (A : List (List Nat)) : Option (List Rule) := A.foldl (fun t x => t.bind fun rs => if stripL blank x = [] then some rs else (readRule (stripL blank x)).map fun q => rs ++ [turned q]) (some [])
theorem tableUp_none (A : List (List Nat)) : A.foldl (fun t x => t.bind fun rs => if stripL blank x = [] then some rs else (readRule (stripL blank x)).map fun q => rs ++ [turned q]) (none : Option (List Rule)) = none := by
  induction A with
  | nil => rfl
  | cons a r ih => simpa using ih
theorem tableUp_from (A : List (List Nat)) : ∀ rs, A.foldl (fun t x => t.bind fun rs => if stripL blank x = [] then some rs else (readRule (stripL blank x)).map fun q => rs ++ [turned q]) (some rs) = (tableOf A).map (rs ++ ·) := by
  induction A with
  | nil => intro rs; simp [tableOf]
  | cons a r ih =>
    intro rs
    rw [List.foldl_cons, tableOf]
    by_cases h : stripL blank a = []
    · simp only [h, if_true, Option.bind_some]
      exact ih rs
    · simp only [h, if_false, Option.bind_some]
      cases hr : readRule (stripL blank a) with
      | none => simp only [Option.map_none]; exact tableUp_none r
      | some q =>
        simp only [Option.map_some]
        rw [ih]
        cases tableOf r <;> simp
theorem tableUp_eq (A : List (List Nat)) : tableUp A = tableOf A := by
  unfold tableUp
  rw [tableUp_from]
  cases tableOf A <;> simp
theorem tableUp_take {A : List (List Nat)} {i : Nat} {x : List Nat} (h : A[i]? = some x) : tableUp (A.take (i + 1)) = (tableUp (A.take i)).bind fun rs => if stripL blank x = [] then some rs else (readRule (stripL blank x)).map fun q => rs ++ [turned q] := by
  unfold tableUp
  rw [List.take_add_one, h, List.foldl_append]
  rfl
theorem tableUp_stop {A : List (List Nat)} {i : Nat} (h : tableUp (A.take i) = none) : tableUp A = none := by
  have e : A = A.take i ++ A.drop i := (List.take_append_drop i A).symm
  unfold tableUp at *
  rw [e, List.foldl_append, h]
  exact tableUp_none _
theorem read_some {l : List Nat} {r : Rule} (h : readRule l = some r) : r.ending ≠ [] := by
  unfold readRule at h
  have key : ∀ k : Nat, 0 < k → k < l.length → l.take k ≠ [] := fun k h1 h2 e => by
    have := congrArg List.length e
    rw [List.length_take, List.length_nil] at this
    omega
  have hw : wordRun l 0 ≤ l.length := run_le (Nat.zero_le _)
  split at h
  · rename_i h1
    split at h
    · cases h
      exact key _ h1.1 h1.2.1
    · cases h
  · split at h
    · rename_i h2
      cases h
      have h3 := lastDigI_le (l := l) (wordRun l 0 - 1)
      exact key _ (by omega) (by omega)
    · cases h
theorem lastIs_turned {r : Rule} (h : r.ending ≠ []) : lastIs (r.ending.reverse.getD (r.ending.reverse.length - 1) 0) (turned r) = true := by
  unfold lastIs turned
  have hr : r.ending.reverse ≠ [] := by simpa using h
  have hp := List.length_pos_iff.mpr hr
  rw [decide_eq_true_eq, List.getLast?_eq_getElem?]
  show r.ending.reverse[r.ending.reverse.length - 1]? = _
  rw [List.getD_eq_getElem?_getD, List.getElem?_eq_getElem (by omega)]
  rfl
theorem lastIs_one {r : Rule} {k k' : Nat} (h : lastIs k r = true) (h' : lastIs k' r = true) : k = k' := by
  unfold lastIs at h h'
  rw [decide_eq_true_eq] at h h'
  rw [h] at h'
  exact Option.some.inj h'
section
variable {K : Type} [DecidableEq K]
theorem valueAt_put (v : Value) (k k' : K) : ∀ kvs : List (K × Value), valueAt (kvs.map fun kv => if kv.1 = k then (kv.1, v) else kv) k' = if k = k' then (valueAt kvs k').map (fun _ => v) else valueAt kvs k'
  | [] => by simp [valueAt]
  | (a, b) :: r => by
    have ih := valueAt_put v k k' r
    unfold valueAt at *
    simp only [List.map_cons]
    by_cases h1 : a = k
    · subst h1
      by_cases h2 : a = k'
      · subst h2; simp
      · simp only [if_true, List.find?_cons, h2, decide_false, if_false] at *
        exact ih
    · by_cases h2 : a = k'
      · subst h2
        have : ¬ k = a := fun e => h1 e.symm
        simp [h1, this]
      · simp only [h1, if_false, List.find?_cons, h2, decide_false] at *
        exact ih
theorem valueAt_stored (kvs : List (K × Value)) (k k' : K) (v : Value) : valueAt (stored kvs k v) k' = if k = k' then some v else valueAt kvs k' := by
  unfold stored
  split
  · rename_i h
    rw [valueAt_put]
    by_cases e : k = k'
    · subst e
      rw [if_pos rfl, if_pos rfl]
      obtain ⟨x, hx, hxk⟩ := List.any_eq_true.mp h
      have : (valueAt kvs k).isSome = true := by
        unfold valueAt
        rw [Option.isSome_map, List.find?_isSome]
        exact ⟨x, hx, hxk⟩
      obtain ⟨y, hy⟩ := Option.isSome_iff_exists.mp this
      rw [hy]
      rfl
    · rw [if_neg e, if_neg e]
  · rename_i h
    unfold valueAt
    rw [List.find?_append]
    by_cases e : k = k'
    · subst e
      have : kvs.find? (fun kv => decide (kv.1 = k)) = none := by
        rw [List.find?_eq_none]
        intro x hx hxk
        exact h (List.any_eq_true.mpr ⟨x, hx, hxk⟩)
      rw [this]
      simp
    · simp [e]
end
theorem S_one {k k' : Nat} : S [k] = S [k'] ↔ k = k' := ⟨fun e => by have := S_inj e; simpa using this, fun e => e ▸ rfl⟩
/-- the entries of a ledger but one address's -/
noncomputable def others (d : Addr) (c : List (Addr × Obj)) : List (Addr × Obj) := c.filter fun p => decide (p.1 ≠ d)
theorem mem_others {d : Addr} {c : List (Addr × Obj)} {p : Addr × Obj} : p ∈ others d c ↔ p ∈ c ∧ p.1 ≠ d := by simp [others]
theorem others_ne {d : Addr} {c : List (Addr × Obj)} : ∀ p ∈ others d c, p.1 ≠ d := fun p h => (mem_others.mp h).2
theorem news_front {h₀ h : Heap} {L d : Addr} {o : Obj} {c : List (Addr × Obj)} (N : News h₀ L h c) (hm : (d, o) ∈ c) : News h₀ L h ((d, o) :: others d c) := by
  intro p hp
  rcases List.mem_cons.mp hp with rfl | hp
  · exact N _ hm
  · exact N _ (mem_others.mp hp).1
theorem news_same {h₀ h : Heap} {L d : Addr} {o o' : Obj} {c : List (Addr × Obj)} (N : News h₀ L h c) (hm : (d, o) ∈ c) (hm' : (d, o') ∈ c) : o = o' := by
  have e1 := (N _ hm).1
  have e2 := (N _ hm').1
  dsimp only at e1 e2
  rw [e1] at e2
  exact Option.some.inj e2
/-- the rules' table: a dict from last letters to lists of rules -/
structure Tbl (prog : Program) (w : World) (c : List (Addr × Obj)) (rd : Addr) (rs : List Rule) (o : Obj) (kvs : List (Str × Value)) : Prop where
  m : (rd, o) ∈ c
  d : o.IsDictOf (PySem.strKind prog w) kvs
  n : kvs.length ≤ rs.length
  b : ∀ k : Nat, (valueAt kvs (S [k]) = none ∧ rs.filter (lastIs k) = []) ∨ ∃ a vs nn, valueAt kvs (S [k]) = some (.ref a) ∧ (a, listOf vs.toArray nn) ∈ c ∧ Rules (rs.filter (lastIs k)) vs c
  i : ∀ k k' a, valueAt kvs (S [k]) = some (.ref a) → valueAt kvs (S [k']) = some (.ref a) → k = k'
theorem Tbl.add {prog : Program} {w : World} {c c' : List (Addr × Obj)} {rd a : Addr} {rs : List Rule} {o o' : Obj} {kvs kvs' : List (Str × Value)} {r : Rule} {k : Nat} {vs' : List Value} {nn' : Nat} (T : Tbl prog w c rd rs o kvs) (hk : lastIs k r = true)
    (hm' : (rd, o') ∈ c') (hd' : o'.IsDictOf (PySem.strKind prog w) kvs') (hn' : kvs'.length ≤ rs.length + 1) (hva : valueAt kvs' (S [k]) = some (.ref a)) (hma : (a, listOf vs'.toArray nn') ∈ c') (hR : Rules (rs.filter (lastIs k) ++ [r]) vs' c')
    (hother : ∀ k', k' ≠ k → valueAt kvs' (S [k']) = valueAt kvs (S [k'])) (hnew : ∀ k', k' ≠ k → valueAt kvs (S [k']) ≠ some (.ref a))
    (hL : ∀ b ws nn, (b, listOf ws nn) ∈ c → b ≠ a → (b, listOf ws nn) ∈ c') (hT : ∀ b r t1 t2 t3, (b, tupObj r t1 t2 t3) ∈ c → (b, tupObj r t1 t2 t3) ∈ c') : Tbl prog w c' rd (rs ++ [r]) o' kvs' where
  m := hm'
  d := hd'
  n := by rw [List.length_append]; exact hn'
  b := by
    intro k'
    by_cases e : k' = k
    · subst e
      refine .inr ⟨a, vs', nn', hva, hma, ?_⟩
      rw [List.filter_append]
      simpa [hk] using hR
    · have e2 : lastIs k' r = false := by
        cases h : lastIs k' r with
        | false => rfl
        | true => exact absurd (lastIs_one h hk) e
      have e3 : (rs ++ [r]).filter (lastIs k') = rs.filter (lastIs k') := by rw [List.filter_append]; simp [e2]
      rw [e3, hother k' e]
      rcases T.b k' with h | ⟨b, ws, nn, h1, h2, h3⟩
      · exact .inl h
      · refine .inr ⟨b, ws, nn, h1, hL b _ nn h2 (fun e4 => hnew k' e (e4 ▸ h1)), ?_⟩
        exact paired_mono (fun _ _ ⟨x, t1, t2, t3, y1, y2⟩ => ⟨x, t1, t2, t3, y1, hT _ _ _ _ _ y2⟩) h3
  i := by
    intro k1 k2 b h1 h2
    by_cases e1 : k1 = k
    · by_cases e2 : k2 = k
      · rw [e1, e2]
      · subst e1
        rw [hva] at h1
        cases h1
        rw [hother k2 e2] at h2
        exact absurd h2 (hnew k2 e2)
    · by_cases e2 : k2 = k
      · subst e2
        rw [hva] at h2
        cases h2
        rw [hother k1 e1] at h1
        exact absurd h1 (hnew k1 e1)
      · rw [hother k1 e1] at h1
        rw [hother k2 e2] at h2
        exact T.i _ _ _ h1 h2
theorem Tbl.more {prog : Program} {w : World} {c c' : List (Addr × Obj)} {rd : Addr} {rs : List Rule} {o : Obj} {kvs : List (Str × Value)} (T : Tbl prog w c rd rs o kvs) (h : ∀ p ∈ c, p ∈ c') : Tbl prog w c' rd rs o kvs :=
  ⟨h _ T.m, T.d, T.n, fun k => (T.b k).elim .inl fun ⟨a, vs, nn, h1, h2, h3⟩ => .inr ⟨a, vs, nn, h1, h _ h2, h3.mono h⟩, T.i⟩
end Mine

end
section
open PySem.Calls
namespace Mine
section
variable {prog : Program} {w : World} {A : Around} {E : Value → Shared → Prop} {s : Shared} {env : Env} {h₀ : Heap} {x : Str} {body : List Stmt} {Q : Flow → Shared → Prop}
/-- a loop over a list that stands in the ledger's part Led -/
theorem list_cut2 {σ : Type} {l : Addr} {vs : List Value} {nn : Nat} {m₀ : Str → Option Value} (Led : σ → List (Addr × Obj)) (ps : σ → List (Str × Value)) (stored : List Str) (J : Nat → σ → Prop) (D : σ → Prop) (c₀ : σ)
    (hh : A.handled = none) (hl : (l, listOf vs.toArray nn) ∈ Led c₀) (F : Fr h₀ env.locals s.heap m₀) (N : News h₀ env.locals s.heap (Led c₀)) (hk : ∀ p ∈ ps c₀, m₀ p.1 = some p.2) (hj : J 0 c₀)
    (turn : ∀ i v c (u : Str → Option Value) h tk own I, i < vs.length → vs[i]? = some v → J i c → (∀ p ∈ Led c, p.1 ≠ I) → (∃ it : Obj, (I, it) ∈ own ∧ it.cls = .type "list_iterator") → (∀ p ∈ own, p.1 = I ∨ p.1 = l) →
      Fr h₀ env.locals h (fun y => if y = x then some v else kstB (fun z => if stored.contains z then u z else m₀ z) (ps c) y) → News h₀ env.locals h (Led c ++ own) →
      wpAny (model prog w) A (execs body env) (LcPost h₀ env.locals x [I] own Led ps stored m₀ (J (i + 1)) D { s with heap := h, toks := tk } Q) E { s with heap := h, toks := tk })
    (brk : ∀ c (u : Str → Option Value) h tk, D c → Fr h₀ env.locals h (fun y => if y = x then u y else kstB (fun z => if stored.contains z then u z else m₀ z) (ps c) y) → News h₀ env.locals h (Led c) → Q .next { s with heap := h, toks := tk })
    (done : ∀ c (u : Str → Option Value) h tk, J vs.length c → Fr h₀ env.locals h (fun y => if y = x then u y else kstB (fun z => if stored.contains z then u z else m₀ z) (ps c) y) → News h₀ env.locals h (Led c) → Q .next { s with heap := h, toks := tk }) :
    wpAny (model prog w) A (pyIter (.ref l)) (fun it s₂ => LoopAtV prog w A h₀ env x body Q E it s₂) E s := by
  have hlN := N _ hl
  have hls : s.heap.IsList l vs.toArray := ⟨_, hlN.1, rfl, nn, rfl⟩
  have hlt : l < s.heap.objs.size := Heap.lt_size hlN.1
  refine wpAny_pyIter_list hls ?_
  have W := Walks.list (prog := prog) (w := w) hh s.heap.objs.size l (Nat.ne_of_lt hlt) vs.toArray
  rw [List.size_toArray] at W
  refine loop_cut Led ps stored J D c₀ W ?_ ?_ ⟨⟨_, Heap.get?_push_size _ rfl, rfl, rfl⟩, hls.at fun o e => Heap.get?_push_of_some _ e⟩ (F.push _) (fun p hp => ⟨Heap.get?_push_of_some _ (N p hp).1, (N p hp).2⟩) ?_ hk hj ?_ brk done
  · intro hm
    rcases List.mem_cons.mp hm with e | hm
    · exact absurd F.ns.lt (e ▸ Nat.lt_irrefl _)
    · exact hlN.2.1 (List.mem_singleton.mp hm).symm
  · intro b hb
    rw [List.mem_singleton.mp hb]
    exact next_is_new F
  · intro p hp hI
    exact absurd (Heap.lt_size (N p hp).1) ((List.mem_singleton.mp hI) ▸ Nat.lt_irrefl _)
  · intro i v c u h tk own hi hP hJ hoff hown hall hst F₁ N₁
    obtain ⟨⟨o, ho, hc, _⟩, _⟩ := hst
    refine turn i v c u h tk own s.heap.objs.size hi (by simpa using hP) hJ (fun p hp e => hoff p hp (by rw [e]; exact List.mem_singleton.mpr rfl)) ⟨o, hall _ (List.mem_singleton.mpr rfl) o ho, hc⟩ (fun p hp => (List.mem_cons.mp (hown p hp)).imp id List.mem_singleton.mp) F₁ N₁

end
section
variable {prog : Program} {w : World} {A : Around} {E : Value → Shared → Prop} {s : Shared} {h₀ : Heap} {L : Addr} {m : Str → Option Value} {news : List (Addr × Obj)} {Q : Value → Shared → Prop} {t u : Tok}
theorem texts_of : ∀ {ys : List Value} {zs : List (List Nat)}, StrsAre ys (zs.map S) → Texts zs ys
  | _, [], h => by cases h; exact .nil
  | _, z :: zs, h => by
    cases h with
    | cons _ t r => exact .cons ⟨t, rfl⟩ (texts_of r)
theorem split_SS {A₁ : List (List Nat)} {c : Nat} (hF : Fr h₀ L s.heap m) (hN : News h₀ L s.heap news) (h0 : A₁ ≠ []) (hf : ∀ p ∈ A₁, c ∉ p) (hl : (joinC c A₁).length ≤ 1000000)
    (h : ∀ D ys h' k, Texts A₁ ys → Fr h₀ L h' m → News h₀ L h' ((D, listOf ys.toArray 0) :: news) → (∀ p ∈ news, p.1 < D) → Q (.ref D) { s with heap := h', toks := k }) :
    wpAny (model prog w) A (call (.builtin "str.split") [.str (S (joinC c A₁)) t, .str (S [c]) u]) Q E s := by
  refine KSpl.split1 hF hN (by rw [S_length]; rfl) (fun D l h' k e a F N l1 => ?_) (by rw [S_length, sizeLine_eq]; omega)
  rw [split_S c A₁ h0 hf] at e
  rw [e] at a
  exact h D _ h' k (texts_of a) F N l1
end
theorem read_len {l : List Nat} {r : Rule} (h : readRule l = some r) : r.ending.length ≤ l.length ∧ r.given.length ≤ l.length := by
  unfold readRule at h
  split at h
  · split at h
    · cases h
      simp only [List.length_take, List.length_drop]
      exact ⟨Nat.min_le_right _ _, Nat.le_trans (Nat.min_le_right _ _) (Nat.sub_le _ _)⟩
    · cases h
  · split at h
    · cases h
      simp only [List.length_take, List.length_drop]
      exact ⟨Nat.min_le_right _ _, Nat.le_trans (Nat.min_le_right _ _) (Nat.sub_le _ _)⟩
    · cases h
theorem ne_of_cls {h₀ h : Heap} {L b d : Addr} {x y : Obj} {c : List (Addr × Obj)} (N : News h₀ L h c) (hb : (b, x) ∈ c) (hd : (d, y) ∈ c) (hne : x.cls ≠ y.cls) : b ≠ d := by
  rintro rfl
  exact hne (congrArg Obj.cls (news_same N hb hd))
theorem dict_cls {prog : Program} {w : World} {o : Obj} {kvs : List (Str × Value)} (h : o.IsDictOf (PySem.strKind prog w) kvs) : o.cls = .type "dict" := let ⟨_, _, e, _⟩ := h; e.1
theorem type_ne {a b : String} (h : a ≠ b) : (Value.type a) ≠ .type b := fun e => h (Value.type.inj e)
theorem notin_dict {prog : Program} {w : World} {A : Around} {E : Value → Shared → Prop} {s : Shared} {h₀ : Heap} {L d : Addr} {news : List (Addr × Obj)} {o : Obj} {kvs : List (Str × Value)} {k : Str} {t : Tok} {Q : Value → Shared → Prop} (b : Bool) (N : News h₀ L s.heap news) (hm : (d, o) ∈ news) (hd : o.IsDictOf (PySem.strKind prog w) kvs) (lo : (d == sysModules) = false) (hb : (valueAt kvs k).isSome = !b)
    (h : Q (.bool b) { s with toks := s.toks + 1 }) : wpAny (model prog w) A (compareOp .NotIn (.str k t) (.ref d)) Q E s := by
  refine wpAny_notIn_of (knd := PySem.strKind _ _) (strKind_is _ _ _ _) lo (kda_dict N hm hd).mapOf ?_
  rw [hb, Bool.not_not]
  exact h
theorem ltOf {d : Addr} {c : List (Addr × Obj)} (h : AllLt d c) : ∀ p ∈ c, @LT.lt Nat _ p.1 d := by
  induction c with
  | nil => intro p hp; cases hp
  | cons a r ih =>
    intro p hp
    rcases List.mem_cons.mp hp with rfl | hp
    · exact h.1
    · exact ih h.2 p hp
theorem strip_len (p : Nat → Bool) (l : List Nat) : (stripL p l).length ≤ l.length := by
  unfold stripL
  rw [List.length_reverse]
  refine Nat.le_trans (List.dropWhile_sublist p).length_le ?_
  rw [List.length_reverse]
  exact (List.dropWhile_sublist p).length_le
theorem raised_less {base : Heap} {l : List Env} {e t : Addr} {cls : Value} {vs : List Value} {big small : List (Addr × Obj)} {h : Heap} (R : RaisedK base l e cls t vs big h) (hs : ∀ p ∈ small, p ∈ big) : RaisedK base l e cls t vs small h :=
  let ⟨⟨B, a, b, c⟩, d⟩ := R
  ⟨⟨B, a, fun q hq => b q (hs q hq), c⟩, d⟩
end Mine

local macro_rules | `(tactic| k_all) => `(tactic| first | exact Mine.neAll (by assumption) (by omega) | exact Mine.others_ne)

namespace Mine
theorem c_read_rules {w : World} {mean : ExcName → Option Value} {mg mb : Str → Option Value} {dp un : Nat} {gd : Option (List Code)} {cn : Str} {cs : Scope} {a : Addr} {ccd : Value} {cl : List (Str × Addr)} {outer : List Env} {A₀ : Around} {base h₀ : Heap} {L : Addr} {m : Str → Option Value} {news : List (Addr × Obj)} {s : Shared} {Q E : Value → Shared → Prop}
    {x d rd : Addr} {kt : Tok} {kh : Int} {nn : Nat} {o : Obj} {A₁ : List (List Nat)} {t : Tok}
    (B : Below A₀ base outer h₀) (F : Fr h₀ L s.heap m) (X : (hd.heap_39 w.params).In h₀) (N : News h₀ L s.heap news) (T : Top hd.view_39 (looseW hd.view_39 [Str.ofString "_law_starts"]) mean mg mb h₀) (hk : cs.kind = .function)
    (hdp : dp + 8 < recursionLimit) (hun : un + 120 < cLine)
    (hx : (x, instObj 78 d) ∈ news) (hd9 : (d, dictOf [{ hash := kh, key := .str (Str.ofString "rules") kt, val := .ref rd }] nn) ∈ news) (ho : (rd, o) ∈ news) (hdo : o.IsDictOf (PySem.strKind PySem.Challenge.rw_iv0074_01.row.prog w) ([] : List (Str × Value))) (hrd : (rd == sysModules) = false) (hA0 : A₁ ≠ []) (hA1 : ∀ p ∈ A₁, 10 ∉ p) (hA2 : ∀ p ∈ A₁, p.length ≤ 1000) (hA3 : ∀ p ∈ A₁, GoodDig (stripL blank p)) (hA4 : A₁.length ≤ 100) (hA5 : (joinC 10 A₁).length ≤ 100000)
    (hret : ∀ rs, tableOf A₁ = some rs → ∀ nw o' kvs h' tk', Fr h₀ L h' m → News h₀ L h' nw → (∀ p ∈ news, p.1 ≠ rd → p ∈ nw) → Tbl PySem.Challenge.rw_iv0074_01.row.prog w nw rd rs o' kvs → Q .none { s with heap := h', toks := tk' }) (hbad : tableOf A₁ = none → ∀ g e te vs h' tk', Fr h₀ L g m → RaisedK base (envX cn cs L a ccd cl :: outer) e (.type "Exception") te vs (others rd news) h' → g.UpToSlots h' → E (.ref e) { s with heap := h', toks := tk' }):
    wpAny (model PySem.Challenge.rw_iv0074_01.row.prog w) (ktrTop dp un gd cn cs L a ccd cl outer) (call (.ref 56) [.ref x, .str (S (joinC 10 A₁)) t]) Q E s := by
  w_top off
  k_with_none
  (k_with "eval Constant str" => (k_here; first | (with_reducible refine Mine.const_S Mine.lit_0 ?_) | (with_reducible refine Mine.const_S Mine.lit_1 ?_) | (with_reducible refine Mine.const_S Mine.lit_2 ?_) | (with_reducible refine Mine.const_S Mine.lit_3 ?_) | (with_reducible refine Mine.const_S Mine.lit_4 ?_) | (with_reducible refine Mine.const_S Mine.lit_5 ?_) | (with_reducible refine Mine.const_S Mine.lit_6 ?_) | (with_reducible refine Mine.const_S Mine.lit_7 ?_) | (with_reducible refine Mine.const_S Mine.lit_8 ?_) | (with_reducible refine Mine.const_S Mine.lit_9 ?_) | (with_reducible refine Mine.const_S Mine.lit_10 ?_) | (with_reducible refine Mine.const_S Mine.lit_11 ?_) | (with_reducible refine Mine.const_S Mine.lit_12 ?_) | (with_reducible refine Mine.const_S Mine.lit_13 ?_) | (with_reducible refine Mine.const_S Mine.lit_14 ?_) | (with_reducible refine Mine.const_S Mine.lit_15 ?_) | (with_reducible refine Mine.const_S Mine.lit_16 ?_) | (with_reducible refine Mine.const_S Mine.lit_17 ?_) | (with_reducible refine Mine.const_S Mine.lit_18 ?_) | (with_reducible refine Mine.const_S Mine.lit_19 ?_) | (with_reducible refine Mine.const_S Mine.lit_20 ?_) | (with_reducible refine Mine.const_S Mine.lit_21 ?_) | (with_reducible refine Mine.const_S Mine.lit_22 ?_) | (with_reducible refine Mine.const_S Mine.lit_23 ?_) | (with_reducible refine Mine.const_S Mine.lit_24 ?_) | (with_reducible refine Mine.const_S Mine.lit_25 ?_) | (with_reducible refine Mine.const_S Mine.lit_26 ?_) | (with_reducible refine Mine.const_S Mine.lit_27 ?_) | (with_reducible refine Mine.const_S Mine.lit_28 ?_) | (with_reducible refine Mine.const_S Mine.lit_29 ?_) | (with_reducible refine Mine.const_S Mine.lit_30 ?_) | (with_reducible refine Mine.const_S Mine.lit_31 ?_) | (with_reducible refine Mine.const_S Mine.lit_32 ?_) | (with_reducible refine Mine.const_S Mine.lit_33 ?_) | (with_reducible refine Mine.const_S Mine.lit_34 ?_); intro _ _))
  (k_with "eval IfExp" => (k_here; first | (with_reducible refine Mine.ifexp_S Mine.lit_7 Mine.lit_12 (by decide) (by decide) ?_) | (with_reducible refine Mine.ifexp_S Mine.lit_9 Mine.lit_8 (by decide) (by decide) ?_)))
  (k_with "call builtin:len" => (k_here; (with_reducible show wpAny _ _ (call (Value.builtin "len") [Value.str (Mine.S _) _]) _ _ _); (refine Mine.len_S (by walk_at "OM") ?_); intro _ _))
  (k_with "truthy str" => (k_here; (with_reducible show wpAny _ _ (PySem.truthy (Value.str (Mine.S _) _)) _ _ _); (refine Mine.truthy_S (by walk_at "OM") ?_); intro _))
  (k_with "compareOp LtE str str" => (k_here; (with_reducible refine Mine.le_S ?_)))
  (k_with "compareOp Eq str str" => (k_here; (with_reducible refine Mine.eq_SS ?_)))
  (k_with "compareOp NotEq str str" => (k_here; (with_reducible refine Mine.ne_SS ?_)))
  (k_with "compareOp NotIn str str" => (k_here; (with_reducible refine Mine.notin_S ?_)))
  (k_with "binaryOp Add str str" => (k_here; (with_reducible show wpAny _ _ (binaryOp Operator.Add (Value.str (Mine.S _) _) (Value.str (Mine.S _) _)) _ _ _); (refine Mine.add_S (by walk_at "OM") ?_); intro _ _))
  (k_with "call builtin:str.find" => (k_here; (with_reducible refine Mine.find_SS ?_); intro _ _))
  (k_with "call builtin:str.startswith" => (k_here; (with_reducible refine Mine.starts_SS ?_)))
  (k_with "call builtin:str.endswith" => (k_here; (with_reducible refine Mine.ends_SS ?_)))
  (k_with "call builtin:str.strip" => (k_here; (with_reducible show wpAny _ _ (call (Value.builtin "str.strip") [Value.str (Mine.S _) _]) _ _ _); (refine Mine.strip_SS (by walk_at "OM") ?_); intro _ _))
  (k_with "subscriptTail Name Name str int" => (k_here; (with_reducible show wpAny _ _ (subscriptTail _ _ (Value.str (Mine.S _) _) (Value.int _ _)) _ _ _); (refine Mine.item_SS (by walk_at "OM") (by walk_at "OM") (by walk_at "OM") ?_); intro _ _))
  (k_with "subscriptTail Name Constant str int" => (k_here; (with_reducible show wpAny _ _ (subscriptTail _ _ (Value.str (Mine.S _) _) (Value.int _ _)) _ _ _); (refine Mine.item_SS (by walk_at "OM") (by walk_at "OM") (by walk_at "OM") ?_); intro _ _))
  (k_with "subscriptTail Name BinOp str int" => (k_here; (with_reducible show wpAny _ _ (subscriptTail _ _ (Value.str (Mine.S _) _) (Value.int _ _)) _ _ _); (refine Mine.item_SS (by walk_at "OM") (by walk_at "OM") (by walk_at "OM") ?_); intro _ _))
  (k_with "subscriptTail Name UnaryOp str int" => (k_here; (with_reducible show wpAny _ _ (subscriptTail _ _ (Value.str (Mine.S _) _) (Value.int (-1) _)) _ _ _); (refine Mine.item_SL ?_ (by walk_at "OM") ?_); rotate_left; intro _ _))
  (k_with "subscriptTail Name Name str int" => (k_here; (with_reducible show wpAny _ _ (subscriptTail _ _ (Value.str (Str.ofString _) _) (Value.int _ _)) _ _ _); (refine Mine.item_lit Mine.lit_34 (by (first | omega | exact fmod_lo _ (by decide) | exact fmod_hi _ (by decide) | fail "no bound")) (by (first | omega | exact fmod_lo _ (by decide) | exact fmod_hi _ (by decide) | fail "no bound")) (by decide) ?_); intro _ _))
  (k_with "subscriptTail Name Slice str ref" => (k_here; (with_reducible show wpAny _ _ (subscriptTail _ (Expr.Slice none (some _) none _) (Value.str (Mine.S _) _) _) _ _ _); (with_reducible rename Fr _ _ _ _ => wF); (with_reducible rename News _ _ _ _ => wN); (first | (refine Mine.slice_SS_to wF wN (by walk_at "OM") (by walk_at "OM") ?_) | (refine Mine.slice_SS_neg wF wN (by walk_at "OM") (by walk_at "OM") (by walk_at "OM") ?_)); intro _ _ _ _ _))
  (k_with "subscriptTail Name Slice str ref" => (k_here; (with_reducible show wpAny _ _ (subscriptTail _ (Expr.Slice (some _) none none _) (Value.str (Mine.S _) _) _) _ _ _); (with_reducible rename Fr _ _ _ _ => wF); (with_reducible rename News _ _ _ _ => wN); (refine Mine.slice_SS_from wF wN (by walk_at "OM") (by walk_at "OM") ?_); intro _ _ _ _ _))
  (k_with "subscriptTail Name Slice str ref" => (k_here; (with_reducible show wpAny _ _ (subscriptTail _ (Expr.Slice (some _) (some _) none _) (Value.str (Mine.S _) _) _) _ _ _); (with_reducible rename Fr _ _ _ _ => wF); (with_reducible rename News _ _ _ _ => wN); (refine Mine.slice_SS_mid wF wN (by walk_at "OM") (by walk_at "OM") (by walk_at "OM") (by walk_at "OM") ?_); intro _ _ _ _ _))
  (k_with "subscriptTail Name Slice str ref" => (k_here; (with_reducible show wpAny _ _ (subscriptTail _ (Expr.Slice none none (some _) _) (Value.str (Mine.S _) _) _) _ _ _); (with_reducible rename Fr _ _ _ _ => wF); (with_reducible rename News _ _ _ _ => wN); (refine Mine.slice_SS_rev wF wN (by walk_at "OM") ?_); intro _ _ _ _ _))
  (k_with "subscriptTail BinOp Slice str ref" => (k_here; (with_reducible show wpAny _ _ (subscriptTail _ (Expr.Slice none (some _) none _) (Value.str (Mine.S _) _) _) _ _ _); (with_reducible rename Fr _ _ _ _ => wF); (with_reducible rename News _ _ _ _ => wN); (first | (refine Mine.slice_SS_to wF wN (by walk_at "OM") (by walk_at "OM") ?_) | (refine Mine.slice_SS_neg wF wN (by walk_at "OM") (by walk_at "OM") (by walk_at "OM") ?_)); intro _ _ _ _ _))
  (k_with "subscriptTail BinOp Slice str ref" => (k_here; (with_reducible show wpAny _ _ (subscriptTail _ (Expr.Slice (some _) none none _) (Value.str (Mine.S _) _) _) _ _ _); (with_reducible rename Fr _ _ _ _ => wF); (with_reducible rename News _ _ _ _ => wN); (refine Mine.slice_SS_from wF wN (by walk_at "OM") (by walk_at "OM") ?_); intro _ _ _ _ _))
  (k_with "subscriptTail BinOp Slice str ref" => (k_here; (with_reducible show wpAny _ _ (subscriptTail _ (Expr.Slice (some _) (some _) none _) (Value.str (Mine.S _) _) _) _ _ _); (with_reducible rename Fr _ _ _ _ => wF); (with_reducible rename News _ _ _ _ => wN); (refine Mine.slice_SS_mid wF wN (by walk_at "OM") (by walk_at "OM") (by walk_at "OM") (by walk_at "OM") ?_); intro _ _ _ _ _))
  (k_with "subscriptTail BinOp Slice str ref" => (k_here; (with_reducible show wpAny _ _ (subscriptTail _ (Expr.Slice none none (some _) _) (Value.str (Mine.S _) _) _) _ _ _); (with_reducible rename Fr _ _ _ _ => wF); (with_reducible rename News _ _ _ _ => wN); (refine Mine.slice_SS_rev wF wN (by walk_at "OM") ?_); intro _ _ _ _ _))
  (k_with "pyIter ref" => ((with_reducible show wpAny _ _ (pyIter (Value.ref _)) (fun _ _ => LoopAtV _ _ _ _ _ _ _ _ _ _ _) _ _); refine Mine.Halt.go ?_))
  (k_with "pyIter str" => ((with_reducible show wpAny _ _ (pyIter (Value.str _ _)) (fun _ _ => LoopAtV _ _ _ _ _ _ _ _ _ _ _) _ _); refine Mine.Halt.go ?_))
  (k_with "exec For Name Name cons nil" => (k_here; (rename Fr _ _ _ _ => wlF); (with_unfolding_all refine For_invVF wlF (by exact rfl) (by exact rfl) ?_; k_whole)))
  (k_with "exec For Name Call cons nil" => (k_here; (rename Fr _ _ _ _ => wlF); (with_unfolding_all refine For_invVF wlF (by exact rfl) (by exact rfl) ?_; k_whole)))
  (k_with "exec For Name Subscript cons nil" => (k_here; (rename Fr _ _ _ _ => wlF); (with_unfolding_all refine For_invVF wlF (by exact rfl) (by exact rfl) ?_; k_whole)))
  (k_with "exec For Name Tuple cons nil" => (k_here; (rename Fr _ _ _ _ => wlF); (with_unfolding_all refine For_invVF wlF (by exact rfl) (by exact rfl) ?_; k_whole)))
  (k_with "KswEnd" => (refine Mine.Halt.go ?_))
  (k_with "ExitPost" => (refine Mine.Halt.go ?_))
  (k_with "LcEnd" => (refine Mine.Halt.go ?_))
  (k_with "LcBrk" => (refine Mine.Halt.go ?_))
  (k_with "LcPost" => (dsimp only [Mine.LcPost]))
  (k_with "eval ListComp" => (k_here; first | ((with_reducible show wpAny _ _ (eval (Expr.ListComp _ [⟨_, _, [], _⟩] _ _) _) _ _ _); k_dflt (refine Mine.comp_EU (by with_unfolding_all rfl) (by decide) (by rfl) (by decide) (by rfl) ?_)) | ((with_reducible show wpAny _ _ (eval (Expr.ListComp _ [⟨_, _, [_], _⟩] _ _) _) _ _ _); k_dflt (refine Mine.comp_ET (by with_unfolding_all rfl) (by decide) (by rfl) (by decide) (by rfl) ?_))))
  (k_with "exec Assign cons ListComp" => (k_here; first | ((with_reducible show wpAny _ _ (exec (Stmt.Assign _ (Expr.ListComp _ [⟨_, _, [], _⟩] _ _) _) _) _ _ _); k_dflt (refine Mine.comp_AU (by with_unfolding_all rfl) (by with_unfolding_all rfl) (by decide) (by rfl) (by decide) (by rfl) (by rfl) (by rfl) ?_)) | ((with_reducible show wpAny _ _ (exec (Stmt.Assign _ (Expr.ListComp _ [⟨_, _, [_], _⟩] _ _) _) _) _ _ _); k_dflt (refine Mine.comp_AT (by with_unfolding_all rfl) (by with_unfolding_all rfl) (by decide) (by rfl) (by decide) (by rfl) (by rfl) (by rfl) ?_))))
  (k_with "pyIter ref" => (first | ((with_reducible show wpAny _ _ (pyIter (Value.ref _)) (Mine.CompAtT _ _ _ _ _ _ _ _ _ _) _ _); refine Mine.Halt.go ?_) | ((with_reducible show wpAny _ _ (pyIter (Value.ref _)) (Mine.CompAtU _ _ _ _ _ _ _ _ _) _ _); refine Mine.Halt.go ?_)))
  (k_with "pyIter str" => (first | ((with_reducible show wpAny _ _ (pyIter (Value.str _ _)) (Mine.CompAtT _ _ _ _ _ _ _ _ _ _) _ _); refine Mine.Halt.go ?_) | ((with_reducible show wpAny _ _ (pyIter (Value.str _ _)) (Mine.CompAtU _ _ _ _ _ _ _ _ _) _ _); refine Mine.Halt.go ?_)))
  (k_with "TestPost" => (refine And.intro (fun whb => ?_) (fun whb => ?_) <;> (try (exact absurd whb (by decide)))))
  (k_with "CompEnd" => (refine Mine.Halt.go ?_))
  (k_with "FinE" => (refine Mine.Halt.go ?_))
  (k_with "FinA" => (refine Mine.Halt.go ?_))
  (k_with "compareOp NotEq ref ref" => (k_here; refine Mine.ne_nil (by k_asm) (by k_mem) (by k_mem) (by ktr_units) ?_))
  (k_with "compareOp Eq ref ref" => (k_here; refine Mine.eq_nil (by k_asm) (by k_mem) (by k_mem) (by ktr_units) ?_))
  (k_with "call ref" => (k_here; (with_reducible show wpAny _ _ (call (Value.ref 35) [Value.str (Mine.S _) _]) _ _ _); k_dflt (refine Mine.c_read_rule (by k_asm) (by k_asm) (by k_asm) (by k_asm) (by k_asm) (by first | exact rfl | assumption) (by ktr_room) (by ktr_units) (by walk_at "OM") (by assumption) ?_ ?_; (focus (k_whole; intro _ _ _ _ wN; (try dsimp only); (try k_sweep); (try k_fold))); rotate_left; (focus (k_whole; intro _ _ _ _ _ _ _ _ _ wN _; (try dsimp only [Mine.tupObj] at wN); (try dsimp only); (try k_sweep); (try k_fold))))))
  (k_with "compareOp NotIn str ref" => (refine Mine.Halt.go ?_))
  (k_with "setItem ref str" => (refine Mine.Halt.go ?_))
  (k_with "subscriptTail Name Name ref str" => (refine Mine.Halt.go ?_))
  (k_with "call builtin:list.append" => (refine Mine.Halt.go ?_))
  (k_with "call builtin:str.split" => (refine Mine.Halt.go ?_))
  revert X
  k_fill
  intro X
  refine wpAny_call ?_
  k_dflt cell_enter
  rename_i g' L' h' FG' F' N' B' X' T'
  replace F' := fr_norm [(Str.ofString "ruletable", .str (S (joinC 10 A₁)) t), (Str.ofString "self", .ref x)] F' rfl
  repeat' (first | (k_unfold; (try dsimp only)) | ((fail_if_success (with_reducible show Mine.Halt _)); k_end; wrow_close) | walk1 | (dsimp only; walk1) | (leave1; walk_say "STEP leave1"; try dsimp only) | fail "no step")
  (with_reducible rename News _ _ _ _ => hN)
  (with_reducible rename Fr _ _ _ _ => hF)
  refine Halt.out ?_
  refine split_SS hF hN hA0 hA1 (by omega) ?_
  intro D ys h9 k9 hys F9 N9 lD
  have hrD : @LT.lt Nat _ rd D := lD _ ho
  refine' list_cut2 (σ := List (Addr × Obj)) (vs := ys) (nn := 0) (fun c => c) (fun _ => []) [Str.ofString "match", Str.ofString "ending", Str.ofString "intact", Str.ofString "num", Str.ofString "append", Str.ofString "cont", Str.ofString "lastchar"] (fun i c => ∃ rs o' kvs, tableUp (A₁.take i) = some rs ∧ rs.length ≤ i ∧ Tbl PySem.Challenge.rw_iv0074_01.row.prog w c rd rs o' kvs ∧ (∀ p ∈ news, p.1 ≠ rd → p ∈ c) ∧ (D, listOf ys.toArray 0) ∈ c ∧ ∀ k a, valueAt kvs (S [k]) = some (.ref a) → @LT.lt Nat _ D a) (fun _ => False) ((D, listOf ys.toArray 0) :: news) rfl ?hl F9 N9 ?kk ?start ?turn ?brk ?done
  case hl => exact .head _
  case kk => kst_all
  case start => exact ⟨[], o, [], rfl, Nat.le_refl _, ⟨.tail _ ho, hdo, Nat.le_refl _, fun k => .inl ⟨rfl, rfl⟩, fun k k' a h => by cases h⟩, fun p hp _ => .tail _ hp, .head _, fun k a h => by cases h⟩
  case brk => intro c u h tk hf; exact hf.elim
  case turn =>
    clear F9 N9 hF hN
    intro i v c u h tk own I hi hv hJ9 hoff hI hown F' N'
    dsimp only at F' N' ⊢
    try k_fold
    obtain ⟨rs, o', kvs, hup, hrl, hT, hkeep, hDc, hbk⟩ := hJ9
    obtain ⟨z, t9, hz, rfl⟩ := hys.at hv
    have hzm := List.mem_of_getElem? hz
    have hz1 := hA2 z hzm
    have hz2 := hA3 z hzm
    have hz3 := strip_len Unicode.isSpace z
    have hstep := tableUp_take hz
    rw [hup, Option.bind_some] at hstep
    have hlen : A₁.length = ys.length := hys.length
    repeat' (first | (k_unfold; (try dsimp only)) | ((fail_if_success (with_reducible show Mine.Halt _)); k_end; wrow_close) | walk1 | (dsimp only; walk1) | (leave1; walk_say "STEP leave1"; try dsimp only) | fail "no step")
    rotate_left
    · refine hbad ?_ g' _ _ _ _ _ (by assumption) (raised_less (by assumption) ?_) (by assumption)
      · (with_reducible rename (readRule _ = none) => hr9)
        (with_reducible rename (stripL _ _ ≠ []) => hz9)
        rw [if_neg hz9] at hstep
        unfold blank at hstep
        rw [hr9, Option.map_none] at hstep
        rw [← tableUp_eq]
        exact tableUp_stop hstep
      · intro p hp
        exact List.mem_append_left _ (hkeep p (mem_others.mp hp).1 (mem_others.mp hp).2)
    · (with_reducible rename (¬ _ ≠ _) => hz9)
      have hz9 : stripL blank z = [] := by simpa using hz9
      rw [if_pos hz9] at hstep
      refine Halt.out (lc_end c (by assumption) (by assumption) (by intro p hp; (try simp only [List.mem_append, List.mem_cons, List.not_mem_nil, or_false, or_assoc] at hp); first | (simp [hp]; done) | (with_reducible refine Or.elim hp (fun hp => ?_) (fun hp => ?_) <;> (first | (simp [hp]; done) | (with_reducible refine Or.elim hp (fun hp => ?_) (fun hp => ?_) <;> (first | (simp [hp]; done) | (with_reducible refine Or.elim hp (fun hp => ?_) (fun hp => ?_) <;> (first | (simp [hp]; done) | (with_reducible refine Or.elim hp (fun hp => ?_) (fun hp => ?_) <;> ((simp [hp]; done)))))))))) (by intro p hp; (try simp only [List.mem_append, List.mem_cons, List.not_mem_nil, or_false, or_assoc] at hp); first | (simp [hp]; done) | (with_reducible refine Or.elim hp (fun hp => ?_) (fun hp => ?_) <;> (first | (simp [hp]; done) | (with_reducible refine Or.elim hp (fun hp => ?_) (fun hp => ?_) <;> (first | (simp [hp]; done) | (with_reducible refine Or.elim hp (fun hp => ?_) (fun hp => ?_) <;> (first | (simp [hp]; done) | (with_reducible refine Or.elim hp (fun hp => ?_) (fun hp => ?_) <;> ((simp [hp]; done)))))))))) (fun p hp hm => hoff p hp (List.mem_singleton.mp hm)) (by kst_all) (by first | (intro z h1 h2 h3; (try dsimp only [kstB]); (repeat (refine Eq.trans (if_neg (by (first | exact h1 | exact Mine.off_stored h3 (by decide +kernel) | ((fail_if_success (exact Mine.not_stored h3)); exact Mine.sub_stored h3 (by decide +kernel)) | exact h2 _ (.head _) | exact h2 _ (.tail _ (.head _)) | exact h2 _ (.tail _ (.tail _ (.head _))) | exact h2 _ (.tail _ (.tail _ (.tail _ (.head _))))))) ?_)); first | exact if_neg (Mine.not_stored h3) | exact rfl) | (intro z h1 h2 h3; (try simp only [List.forall_mem_cons, List.not_mem_nil, false_implies, implies_true, and_true, ne_eq] at h2); (try simp only [List.contains_cons, List.contains_nil, Bool.or_false, Bool.or_eq_false_iff, beq_eq_false_iff_ne, ne_eq] at h3); simp [kstB, h1, h2, h3])) ⟨rs, o', kvs, hstep, by omega, hT, hkeep, hDc, hbk⟩)
    (with_reducible rename (readRule _ = some _) => hr9)
    (with_reducible rename (stripL _ _ ≠ []) => hz9)
    (with_reducible rename Rule => r9)
    have hr1 := read_some hr9
    have hr2 := read_len hr9
    have hr3 : r9.ending.reverse ≠ [] := by simpa using hr1
    have hlast := lastIs_turned hr1
    repeat' (first | (k_unfold; (try dsimp only)) | ((fail_if_success (with_reducible show Mine.Halt _)); k_end; wrow_close) | walk1 | (dsimp only; walk1) | (leave1; walk_say "STEP leave1"; try dsimp only) | fail "no step")
    rotate_left
    · exact hr3
    (with_reducible rename Fr _ _ _ _ => hF)
    (with_reducible rename News _ _ _ _ => hN)
    (with_reducible rename (∀ _ ∈ c ++ own, _ < _) => hq9)
    have hcls := dict_cls hT.d
    have hrdI : rd ≠ I := hoff _ hT.m
    rw [if_neg hz9] at hstep
    rw [hr9, Option.map_some] at hstep
    refine Halt.out ?_
    generalize hk9 : r9.ending.reverse.getD (r9.ending.reverse.length - 1) 0 = k at *
    (try k_fold)
    rcases hT.b k with ⟨hva, hfl⟩ | ⟨a9, vs, n9, hva, hma, hR⟩
    · refine notin_dict true hN (.tail _ (List.mem_append_left _ hT.m)) hT.d hrd (by rw [hva]; rfl) ?_
      repeat' (first | (k_unfold; (try dsimp only)) | ((fail_if_success (with_reducible show Mine.Halt _)); k_end; wrow_close) | walk1 | (dsimp only; walk1) | (leave1; walk_say "STEP leave1"; try dsimp only) | fail "no step")
      (with_reducible rename Fr _ _ _ _ => hF2)
      (with_reducible rename News _ _ _ _ => hN2)
      (with_reducible rename Addr => a9)
      (with_reducible rename (_ ∧ AllLt a9 _) => la)
      have la2 := ltOf la.2
      have hra : @LT.lt Nat _ rd a9 := la2 _ (List.mem_append_left _ hT.m)
      have hDa : @LT.lt Nat _ D a9 := la2 _ (List.mem_append_left _ hDc)
      refine Halt.out ?_
      refine kda_set (knd := PySem.strKind _ _) hF2 (news_front hN2 (.tail _ (.tail _ (List.mem_append_left _ hT.m)))) (.head others_ne) hT.d (strKind_is _ _ _ _) (by rw [sizeLine_eq]; have := hT.n; omega) ?_
      intro h8 o8 hF3 hN3 hd8
      clear hF2 hN2
      repeat' (first | (k_unfold; (try dsimp only)) | ((fail_if_success (with_reducible show Mine.Halt _)); k_end; wrow_close) | walk1 | (dsimp only; walk1) | (leave1; walk_say "STEP leave1"; try dsimp only) | fail "no step")
      refine Halt.out ?_
      refine kda_item (knd := PySem.strKind _ _) hN3 (.head _) hd8 (strKind_is _ _ _ _) (by rw [valueAt_stored, if_pos rfl]) ?_
      have hN4 := news_front hN3 (.tail _ (mem_others.mpr ⟨.head _, fun e => Nat.lt_irrefl _ (e ▸ hra : @LT.lt Nat _ rd rd)⟩))
      clear hN3
      repeat' (first | (k_unfold; (try dsimp only)) | ((fail_if_success (with_reducible show Mine.Halt _)); k_end; wrow_close) | walk1 | (dsimp only; walk1) | (leave1; walk_say "STEP leave1"; try dsimp only) | fail "no step")
      (with_reducible rename Fr _ _ _ _ => hF2)
      (with_reducible rename News _ _ _ _ => hN2)
      (with_reducible rename Addr => tq)
      (with_reducible rename (_ ∧ AllLt tq _) => lt9)
      refine Halt.out ?_
      refine append_K hF2 hN2 (.tail (Nat.ne_of_gt lt9.1) (.head others_ne)) ?_ (by rw [sizeLine_eq]; exact Nat.zero_le _)
      intro h7 hF7 hN7
      repeat' (first | (k_unfold; (try dsimp only)) | ((fail_if_success (with_reducible show Mine.Halt _)); k_end; wrow_close) | walk1 | (dsimp only; walk1) | (leave1; walk_say "STEP leave1"; try dsimp only) | fail "no step")
      obtain ⟨t1, t2, t3, htq⟩ : ∃ t1 t2 t3, News g' L' h7 [(tq, tupObj (turned r9) t1 t2 t3)] := ⟨_, _, _, news_sub hN7 (fun p hp => (List.mem_singleton.mp hp) ▸ .head _)⟩
      have hrO : ∀ p ∈ own, p.1 ≠ rd := fun p hp => (hown p hp).elim (fun e => e ▸ hrdI.symm) (fun e => e ▸ Nat.ne_of_gt hrD)
      have haO : ∀ p ∈ own, p.1 ≠ a9 := fun p hp => Nat.ne_of_lt (la2 p (List.mem_append_right _ hp))
      have hIa : @LT.lt Nat _ I a9 := let ⟨it, h1, _⟩ := hI; la2 _ (List.mem_append_right _ h1)
      have hrda : rd ≠ a9 := Nat.ne_of_lt hra
      have hta : a9 ≠ tq := Nat.ne_of_lt lt9.1
      have hN8 : News g' L' h7 (((a9, listOf ([] ++ [Value.ref tq]).toArray (0 + 1)) :: (tq, tupObj (turned r9) t1 t2 t3) :: (rd, o8) :: others a9 (others rd c)) ++ own) := by
        intro p hp
        simp only [List.mem_append, List.mem_cons] at hp
        rcases hp with (rfl | rfl | rfl | hp) | hp
        · exact hN7 _ (.tail _ (.head _))
        · exact htq _ (.head _)
        · exact hN7 _ (.tail _ (.tail _ (mem_others.mpr ⟨.head _, hrda⟩)))
        · obtain ⟨hp1, hp2⟩ := mem_others.mp hp
          obtain ⟨hp1, hp3⟩ := mem_others.mp hp1
          exact hN7 _ (.tail _ (.tail _ (mem_others.mpr ⟨.tail _ (mem_others.mpr ⟨.tail _ (.tail _ (List.mem_append_left _ hp1)), hp3⟩), hp2⟩)))
        · exact hN7 _ (.tail _ (.tail _ (mem_others.mpr ⟨.tail _ (mem_others.mpr ⟨.tail _ (.tail _ (List.mem_append_right _ hp)), hrO p hp⟩), haO p hp⟩)))
      have hTk : ∀ b r t1 t2 t3, (b, tupObj r t1 t2 t3) ∈ c → (b, tupObj r t1 t2 t3) ∈ others a9 (others rd c) := fun b r t1 t2 t3 hb =>
        mem_others.mpr ⟨mem_others.mpr ⟨hb, ne_of_cls N' (List.mem_append_left _ hb) (List.mem_append_left _ hT.m) (by rw [hcls]; exact type_ne (by decide))⟩, Nat.ne_of_lt (la2 _ (List.mem_append_left _ hb))⟩
      refine Halt.out (lc_end ((a9, listOf ([] ++ [Value.ref tq]).toArray (0 + 1)) :: (tq, tupObj (turned r9) t1 t2 t3) :: (rd, o8) :: others a9 (others rd c)) (by assumption) hN8 (fun p hp => List.mem_append_right _ hp) (fun p hp => List.mem_append_left _ hp) ?_ (by kst_all) (by first | (intro z h1 h2 h3; (try dsimp only [kstB]); (repeat (refine Eq.trans (if_neg (by (first | exact h1 | exact Mine.off_stored h3 (by decide +kernel) | ((fail_if_success (exact Mine.not_stored h3)); exact Mine.sub_stored h3 (by decide +kernel)) | exact h2 _ (.head _) | exact h2 _ (.tail _ (.head _)) | exact h2 _ (.tail _ (.tail _ (.head _))) | exact h2 _ (.tail _ (.tail _ (.tail _ (.head _))))))) ?_)); first | exact if_neg (Mine.not_stored h3) | exact rfl) | (intro z h1 h2 h3; (try simp only [List.forall_mem_cons, List.not_mem_nil, false_implies, implies_true, and_true, ne_eq] at h2); (try simp only [List.contains_cons, List.contains_nil, Bool.or_false, Bool.or_eq_false_iff, beq_eq_false_iff_ne, ne_eq] at h3); simp [kstB, h1, h2, h3])) ⟨rs ++ [turned r9], o8, stored kvs (S [k]) (.ref a9), hstep, by simp; omega, ?_, ?_, ?_, ?_⟩)
      · intro p hp hm
        have e := List.mem_singleton.mp hm
        rcases List.mem_cons.mp hp with rfl | hp
        · exact absurd e (Nat.ne_of_gt hIa)
        rcases List.mem_cons.mp hp with rfl | hp
        · exact absurd e (Nat.ne_of_gt (Nat.lt_trans hIa lt9.1))
        rcases List.mem_cons.mp hp with rfl | hp
        · exact hrdI e
        · exact hoff p (mem_others.mp (mem_others.mp hp).1).1 e
      · refine hT.add hlast (.tail _ (.tail _ (.head _))) hd8 ?_ (by rw [valueAt_stored, if_pos rfl]) (.head _) ?_ ?_ ?_ ?_ ?_
        · exact Nat.le_trans (stored_length_le _ _ _) (Nat.succ_le_succ hT.n)
        · rw [hfl]
          exact .cons ⟨tq, t1, t2, t3, rfl, .tail _ (.head _)⟩ .nil
        · intro k' hk'
          rw [valueAt_stored, if_neg (fun e => hk' (S_one.mp e).symm)]
        · intro k' hk' e
          rcases hT.b k' with ⟨e2, _⟩ | ⟨b, ws, nn, e2, hb, _⟩
          · rw [e2] at e; cases e
          · rw [e2] at e
            cases e
            exact Nat.lt_irrefl _ (la2 _ (List.mem_append_left _ hb))
        · intro b ws nn hb hne
          exact .tail _ (.tail _ (.tail _ (mem_others.mpr ⟨mem_others.mpr ⟨hb, ne_of_cls N' (List.mem_append_left _ hb) (List.mem_append_left _ hT.m) (by rw [hcls]; exact type_ne (by decide))⟩, hne⟩)))
        · intro b r t1 t2 t3 hb
          exact .tail _ (.tail _ (.tail _ (hTk _ _ _ _ _ hb)))
      · intro p hp hpr
        exact .tail _ (.tail _ (.tail _ (mem_others.mpr ⟨mem_others.mpr ⟨hkeep p hp hpr, hpr⟩, Nat.ne_of_lt (Nat.lt_trans (lD p hp) hDa)⟩)))
      · exact .tail _ (.tail _ (.tail _ (mem_others.mpr ⟨mem_others.mpr ⟨hDc, Nat.ne_of_gt hrD⟩, Nat.ne_of_lt hDa⟩)))
      · intro k' a hk'
        rw [valueAt_stored] at hk'
        split at hk'
        · cases hk'
          exact hDa
        · exact hbk _ _ hk'
    · refine notin_dict false hN (.tail _ (List.mem_append_left _ hT.m)) hT.d hrd (by rw [hva]; rfl) ?_
      repeat' (first | (k_unfold; (try dsimp only)) | ((fail_if_success (with_reducible show Mine.Halt _)); k_end; wrow_close) | walk1 | (dsimp only; walk1) | (leave1; walk_say "STEP leave1"; try dsimp only) | fail "no step")
      refine Halt.out ?_
      refine kda_item (knd := PySem.strKind _ _) hN (.tail _ (List.mem_append_left _ hT.m)) hT.d (strKind_is _ _ _ _) hva ?_
      have hN4 := news_front hN (.tail _ (List.mem_append_left _ hma))
      repeat' (first | (k_unfold; (try dsimp only)) | ((fail_if_success (with_reducible show Mine.Halt _)); k_end; wrow_close) | walk1 | (dsimp only; walk1) | (leave1; walk_say "STEP leave1"; try dsimp only) | fail "no step")
      (with_reducible rename Fr _ _ _ _ => hF2)
      (with_reducible rename News _ _ _ _ => hN2)
      (with_reducible rename Addr => tq)
      (with_reducible rename (_ ∧ AllLt tq _) => lt9)
      refine Halt.out ?_
      refine append_K hF2 hN2 (.tail (Nat.ne_of_gt lt9.1) (.head others_ne)) ?_ (by
        have e1 := hR.length
        have e2 : (rs.filter (lastIs k)).length ≤ rs.length := List.length_filter_le _ _
        rw [sizeLine_eq, List.size_toArray]
        omega)
      intro h7 hF7 hN7
      repeat' (first | (k_unfold; (try dsimp only)) | ((fail_if_success (with_reducible show Mine.Halt _)); k_end; wrow_close) | walk1 | (dsimp only; walk1) | (leave1; walk_say "STEP leave1"; try dsimp only) | fail "no step")
      obtain ⟨t1, t2, t3, htq⟩ : ∃ t1 t2 t3, News g' L' h7 [(tq, tupObj (turned r9) t1 t2 t3)] := ⟨_, _, _, news_sub hN7 (fun p hp => (List.mem_singleton.mp hp) ▸ .head _)⟩
      have hrO : ∀ p ∈ own, p.1 ≠ rd := fun p hp => (hown p hp).elim (fun e => e ▸ hrdI.symm) (fun e => e ▸ Nat.ne_of_gt hrD)
      have hDa : @LT.lt Nat _ D a9 := hbk _ _ hva
      have haI : a9 ≠ I := hoff _ hma
      have haO : ∀ p ∈ own, p.1 ≠ a9 := fun p hp => (hown p hp).elim (fun e => e ▸ haI.symm) (fun e => e ▸ Nat.ne_of_lt hDa)
      have hIt : @LT.lt Nat _ I tq := let ⟨it, h1, _⟩ := hI; ltOf lt9.2 _ (mem_others.mpr ⟨.tail _ (List.mem_append_right _ h1), haI.symm⟩)
      have hrda : rd ≠ a9 := ne_of_cls N' (List.mem_append_left _ hT.m) (List.mem_append_left _ hma) (by rw [hcls]; exact type_ne (by decide))
      have hta : a9 ≠ tq := Nat.ne_of_lt lt9.1
      rw [List.push_toArray] at hN7
      have hN8 : News g' L' h7 (((a9, listOf (vs ++ [Value.ref tq]).toArray (n9 + 1)) :: (tq, tupObj (turned r9) t1 t2 t3) :: others a9 c) ++ own) := by
        intro p hp
        simp only [List.mem_append, List.mem_cons] at hp
        rcases hp with (rfl | rfl | hp) | hp
        · exact hN7 _ (.tail _ (.head _))
        · exact htq _ (.head _)
        · obtain ⟨hp1, hp2⟩ := mem_others.mp hp
          exact hN7 _ (.tail _ (.tail _ (mem_others.mpr ⟨.tail _ (List.mem_append_left _ hp1), hp2⟩)))
        · exact hN7 _ (.tail _ (.tail _ (mem_others.mpr ⟨.tail _ (List.mem_append_right _ hp), haO p hp⟩)))
      have hTk : ∀ b r t1 t2 t3, (b, tupObj r t1 t2 t3) ∈ c → (b, tupObj r t1 t2 t3) ∈ others a9 c := fun b r t1 t2 t3 hb =>
        mem_others.mpr ⟨hb, ne_of_cls N' (List.mem_append_left _ hb) (List.mem_append_left _ hma) (type_ne (by decide))⟩
      refine Halt.out (lc_end ((a9, listOf (vs ++ [Value.ref tq]).toArray (n9 + 1)) :: (tq, tupObj (turned r9) t1 t2 t3) :: others a9 c) (by assumption) hN8 (fun p hp => List.mem_append_right _ hp) (fun p hp => List.mem_append_left _ hp) ?_ (by kst_all) (by first | (intro z h1 h2 h3; (try dsimp only [kstB]); (repeat (refine Eq.trans (if_neg (by (first | exact h1 | exact Mine.off_stored h3 (by decide +kernel) | ((fail_if_success (exact Mine.not_stored h3)); exact Mine.sub_stored h3 (by decide +kernel)) | exact h2 _ (.head _) | exact h2 _ (.tail _ (.head _)) | exact h2 _ (.tail _ (.tail _ (.head _))) | exact h2 _ (.tail _ (.tail _ (.tail _ (.head _))))))) ?_)); first | exact if_neg (Mine.not_stored h3) | exact rfl) | (intro z h1 h2 h3; (try simp only [List.forall_mem_cons, List.not_mem_nil, false_implies, implies_true, and_true, ne_eq] at h2); (try simp only [List.contains_cons, List.contains_nil, Bool.or_false, Bool.or_eq_false_iff, beq_eq_false_iff_ne, ne_eq] at h3); simp [kstB, h1, h2, h3])) ⟨rs ++ [turned r9], o', kvs, hstep, by simp; omega, ?_, ?_, ?_, hbk⟩)
      · intro p hp hm
        have e := List.mem_singleton.mp hm
        rcases List.mem_cons.mp hp with rfl | hp
        · exact haI e
        rcases List.mem_cons.mp hp with rfl | hp
        · exact absurd e (Nat.ne_of_gt hIt)
        · exact hoff p (mem_others.mp hp).1 e
      · refine hT.add hlast (.tail _ (.tail _ (mem_others.mpr ⟨hT.m, hrda⟩))) hT.d (Nat.le_succ_of_le hT.n) hva (.head _) ?_ (fun _ _ => rfl) ?_ ?_ ?_
        · exact Paired.snoc (paired_mono (fun _ _ ⟨x, t1, t2, t3, y1, y2⟩ => ⟨x, t1, t2, t3, y1, .tail _ (.tail _ (hTk _ _ _ _ _ y2))⟩) hR) ⟨tq, t1, t2, t3, rfl, .tail _ (.head _)⟩
        · intro k' hk' e
          exact hk' (hT.i _ _ _ e hva)
        · intro b ws nn hb hne
          exact .tail _ (.tail _ (mem_others.mpr ⟨hb, hne⟩))
        · intro b r t1 t2 t3 hb
          exact .tail _ (.tail _ (hTk _ _ _ _ _ hb))
      · intro p hp hpr
        exact .tail _ (.tail _ (mem_others.mpr ⟨hkeep p hp hpr, Nat.ne_of_lt (Nat.lt_trans (lD p hp) hDa)⟩))
      · exact .tail _ (.tail _ (mem_others.mpr ⟨hDc, Nat.ne_of_lt hDa⟩))
  case done =>
    clear F9 N9 hF hN
    rintro c u h tk ⟨rs, o', kvs, hup, hrl, hT, hkeep, -, -⟩ F' N'
    dsimp only at F' N' ⊢
    rw [← hys.length, List.take_length, tableUp_eq] at hup
    repeat' (first | (k_unfold; (try dsimp only)) | ((fail_if_success (with_reducible show Mine.Halt _)); k_end; wrow_close) | walk1 | (dsimp only; walk1) | (leave1; walk_say "STEP leave1"; try dsimp only) | fail "no step")
    exact hret rs hup c o' kvs _ _ (by assumption) (by assumption) hkeep hT
end Mine

end
section
namespace Mine
/-- a stemmer with a table of rules stands on the ledger -/
noncomputable def Stemmer (prog : Program) (w : World) (nw : List (Addr × Obj)) (x : Addr) (rs : List Rule) : Prop := ∃ d kh kt rd nn o kvs, (x, instObj 78 d) ∈ nw ∧ (d, dictOf [{ hash := kh, key := .str (Str.ofString "rules") kt, val := .ref rd }] nn) ∈ nw ∧ (rd == sysModules) = false ∧ Tbl prog w nw rd rs o kvs
end Mine


namespace Mine
theorem c_class {w : World} {mean : ExcName → Option Value} {mg mb : Str → Option Value} {dp un : Nat} {gd : Option (List Code)} {cn : Str} {cs : Scope} {a : Addr} {ccd : Value} {cl : List (Str × Addr)} {outer : List Env} {A₀ : Around} {base h₀ : Heap} {L : Addr} {m : Str → Option Value} {news : List (Addr × Obj)} {s : Shared} {Q E : Value → Shared → Prop}
    {A₁ : List (List Nat)} {t : Tok}
    (B : Below A₀ base outer h₀) (F : Fr h₀ L s.heap m) (X : (hd.heap_39 w.params).In h₀) (N : News h₀ L s.heap news) (T : Top hd.view_39 (looseW hd.view_39 [Str.ofString "_law_starts"]) mean mg mb h₀) (hk : cs.kind = .function)
    (hdp : dp + 16 < recursionLimit) (hun : un + 250 < cLine)
    (hA0 : A₁ ≠ []) (hA1 : ∀ p ∈ A₁, 10 ∉ p) (hA2 : ∀ p ∈ A₁, p.length ≤ 1000) (hA3 : ∀ p ∈ A₁, GoodDig (stripL blank p)) (hA4 : A₁.length ≤ 100) (hA5 : (joinC 10 A₁).length ≤ 100000)
    (hret : ∀ rs, tableOf A₁ = some rs → ∀ x nw h' tk', Fr h₀ L h' m → News h₀ L h' nw → (∀ p ∈ news, p ∈ nw) → Stemmer PySem.Challenge.rw_iv0074_01.row.prog w nw x rs → Q (.ref x) { s with heap := h', toks := tk' }) (hbad : tableOf A₁ = none → ∀ g e te vs h' tk', Fr h₀ L g m → RaisedK base (envX cn cs L a ccd cl :: outer) e (.type "Exception") te vs news h' → g.UpToSlots h' → E (.ref e) { s with heap := h', toks := tk' }):
    wpAny (model PySem.Challenge.rw_iv0074_01.row.prog w) (ktrTop dp un gd cn cs L a ccd cl outer) (call (.ref 78) [.str (S (joinC 10 A₁)) t]) Q E s := by
  w_top off
  k_with_none
  (k_with "eval Constant str" => (k_here; first | (with_reducible refine Mine.const_S Mine.lit_0 ?_) | (with_reducible refine Mine.const_S Mine.lit_1 ?_) | (with_reducible refine Mine.const_S Mine.lit_2 ?_) | (with_reducible refine Mine.const_S Mine.lit_3 ?_) | (with_reducible refine Mine.const_S Mine.lit_4 ?_) | (with_reducible refine Mine.const_S Mine.lit_5 ?_) | (with_reducible refine Mine.const_S Mine.lit_6 ?_) | (with_reducible refine Mine.const_S Mine.lit_7 ?_) | (with_reducible refine Mine.const_S Mine.lit_8 ?_) | (with_reducible refine Mine.const_S Mine.lit_9 ?_) | (with_reducible refine Mine.const_S Mine.lit_10 ?_) | (with_reducible refine Mine.const_S Mine.lit_11 ?_) | (with_reducible refine Mine.const_S Mine.lit_12 ?_) | (with_reducible refine Mine.const_S Mine.lit_13 ?_) | (with_reducible refine Mine.const_S Mine.lit_14 ?_) | (with_reducible refine Mine.const_S Mine.lit_15 ?_) | (with_reducible refine Mine.const_S Mine.lit_16 ?_) | (with_reducible refine Mine.const_S Mine.lit_17 ?_) | (with_reducible refine Mine.const_S Mine.lit_18 ?_) | (with_reducible refine Mine.const_S Mine.lit_19 ?_) | (with_reducible refine Mine.const_S Mine.lit_20 ?_) | (with_reducible refine Mine.const_S Mine.lit_21 ?_) | (with_reducible refine Mine.const_S Mine.lit_22 ?_) | (with_reducible refine Mine.const_S Mine.lit_23 ?_) | (with_reducible refine Mine.const_S Mine.lit_24 ?_) | (with_reducible refine Mine.const_S Mine.lit_25 ?_) | (with_reducible refine Mine.const_S Mine.lit_26 ?_) | (with_reducible refine Mine.const_S Mine.lit_27 ?_) | (with_reducible refine Mine.const_S Mine.lit_28 ?_) | (with_reducible refine Mine.const_S Mine.lit_29 ?_) | (with_reducible refine Mine.const_S Mine.lit_30 ?_) | (with_reducible refine Mine.const_S Mine.lit_31 ?_) | (with_reducible refine Mine.const_S Mine.lit_32 ?_) | (with_reducible refine Mine.const_S Mine.lit_33 ?_) | (with_reducible refine Mine.const_S Mine.lit_34 ?_); intro _ _))
  (k_with "eval IfExp" => (k_here; first | (with_reducible refine Mine.ifexp_S Mine.lit_7 Mine.lit_12 (by decide) (by decide) ?_) | (with_reducible refine Mine.ifexp_S Mine.lit_9 Mine.lit_8 (by decide) (by decide) ?_)))
  (k_with "call builtin:len" => (k_here; (with_reducible show wpAny _ _ (call (Value.builtin "len") [Value.str (Mine.S _) _]) _ _ _); (refine Mine.len_S (by walk_at "OM") ?_); intro _ _))
  (k_with "truthy str" => (k_here; (with_reducible show wpAny _ _ (PySem.truthy (Value.str (Mine.S _) _)) _ _ _); (refine Mine.truthy_S (by walk_at "OM") ?_); intro _))
  (k_with "compareOp LtE str str" => (k_here; (with_reducible refine Mine.le_S ?_)))
  (k_with "compareOp Eq str str" => (k_here; (with_reducible refine Mine.eq_SS ?_)))
  (k_with "compareOp NotEq str str" => (k_here; (with_reducible refine Mine.ne_SS ?_)))
  (k_with "compareOp NotIn str str" => (k_here; (with_reducible refine Mine.notin_S ?_)))
  (k_with "binaryOp Add str str" => (k_here; (with_reducible show wpAny _ _ (binaryOp Operator.Add (Value.str (Mine.S _) _) (Value.str (Mine.S _) _)) _ _ _); (refine Mine.add_S (by walk_at "OM") ?_); intro _ _))
  (k_with "call builtin:str.find" => (k_here; (with_reducible refine Mine.find_SS ?_); intro _ _))
  (k_with "call builtin:str.startswith" => (k_here; (with_reducible refine Mine.starts_SS ?_)))
  (k_with "call builtin:str.endswith" => (k_here; (with_reducible refine Mine.ends_SS ?_)))
  (k_with "call builtin:str.strip" => (k_here; (with_reducible show wpAny _ _ (call (Value.builtin "str.strip") [Value.str (Mine.S _) _]) _ _ _); (refine Mine.strip_SS (by walk_at "OM") ?_); intro _ _))
  (k_with "subscriptTail Name Name str int" => (k_here; (with_reducible show wpAny _ _ (subscriptTail _ _ (Value.str (Mine.S _) _) (Value.int _ _)) _ _ _); (refine Mine.item_SS (by walk_at "OM") (by walk_at "OM") (by walk_at "OM") ?_); intro _ _))
  (k_with "subscriptTail Name Constant str int" => (k_here; (with_reducible show wpAny _ _ (subscriptTail _ _ (Value.str (Mine.S _) _) (Value.int _ _)) _ _ _); (refine Mine.item_SS (by walk_at "OM") (by walk_at "OM") (by walk_at "OM") ?_); intro _ _))
  (k_with "subscriptTail Name BinOp str int" => (k_here; (with_reducible show wpAny _ _ (subscriptTail _ _ (Value.str (Mine.S _) _) (Value.int _ _)) _ _ _); (refine Mine.item_SS (by walk_at "OM") (by walk_at "OM") (by walk_at "OM") ?_); intro _ _))
  (k_with "subscriptTail Name UnaryOp str int" => (k_here; (with_reducible show wpAny _ _ (subscriptTail _ _ (Value.str (Mine.S _) _) (Value.int (-1) _)) _ _ _); (refine Mine.item_SL ?_ (by walk_at "OM") ?_); rotate_left; intro _ _))
  (k_with "subscriptTail Name Name str int" => (k_here; (with_reducible show wpAny _ _ (subscriptTail _ _ (Value.str (Str.ofString _) _) (Value.int _ _)) _ _ _); (refine Mine.item_lit Mine.lit_34 (by (first | omega | exact fmod_lo _ (by decide) | exact fmod_hi _ (by decide) | fail "no bound")) (by (first | omega | exact fmod_lo _ (by decide) | exact fmod_hi _ (by decide) | fail "no bound")) (by decide) ?_); intro _ _))
  (k_with "subscriptTail Name Slice str ref" => (k_here; (with_reducible show wpAny _ _ (subscriptTail _ (Expr.Slice none (some _) none _) (Value.str (Mine.S _) _) _) _ _ _); (with_reducible rename Fr _ _ _ _ => wF); (with_reducible rename News _ _ _ _ => wN); (first | (refine Mine.slice_SS_to wF wN (by walk_at "OM") (by walk_at "OM") ?_) | (refine Mine.slice_SS_neg wF wN (by walk_at "OM") (by walk_at "OM") (by walk_at "OM") ?_)); intro _ _ _ _ _))
  (k_with "subscriptTail Name Slice str ref" => (k_here; (with_reducible show wpAny _ _ (subscriptTail _ (Expr.Slice (some _) none none _) (Value.str (Mine.S _) _) _) _ _ _); (with_reducible rename Fr _ _ _ _ => wF); (with_reducible rename News _ _ _ _ => wN); (refine Mine.slice_SS_from wF wN (by walk_at "OM") (by walk_at "OM") ?_); intro _ _ _ _ _))
  (k_with "subscriptTail Name Slice str ref" => (k_here; (with_reducible show wpAny _ _ (subscriptTail _ (Expr.Slice (some _) (some _) none _) (Value.str (Mine.S _) _) _) _ _ _); (with_reducible rename Fr _ _ _ _ => wF); (with_reducible rename News _ _ _ _ => wN); (refine Mine.slice_SS_mid wF wN (by walk_at "OM") (by walk_at "OM") (by walk_at "OM") (by walk_at "OM") ?_); intro _ _ _ _ _))
  (k_with "subscriptTail Name Slice str ref" => (k_here; (with_reducible show wpAny _ _ (subscriptTail _ (Expr.Slice none none (some _) _) (Value.str (Mine.S _) _) _) _ _ _); (with_reducible rename Fr _ _ _ _ => wF); (with_reducible rename News _ _ _ _ => wN); (refine Mine.slice_SS_rev wF wN (by walk_at "OM") ?_); intro _ _ _ _ _))
  (k_with "subscriptTail BinOp Slice str ref" => (k_here; (with_reducible show wpAny _ _ (subscriptTail _ (Expr.Slice none (some _) none _) (Value.str (Mine.S _) _) _) _ _ _); (with_reducible rename Fr _ _ _ _ => wF); (with_reducible rename News _ _ _ _ => wN); (first | (refine Mine.slice_SS_to wF wN (by walk_at "OM") (by walk_at "OM") ?_) | (refine Mine.slice_SS_neg wF wN (by walk_at "OM") (by walk_at "OM") (by walk_at "OM") ?_)); intro _ _ _ _ _))
  (k_with "subscriptTail BinOp Slice str ref" => (k_here; (with_reducible show wpAny _ _ (subscriptTail _ (Expr.Slice (some _) none none _) (Value.str (Mine.S _) _) _) _ _ _); (with_reducible rename Fr _ _ _ _ => wF); (with_reducible rename News _ _ _ _ => wN); (refine Mine.slice_SS_from wF wN (by walk_at "OM") (by walk_at "OM") ?_); intro _ _ _ _ _))
  (k_with "subscriptTail BinOp Slice str ref" => (k_here; (with_reducible show wpAny _ _ (subscriptTail _ (Expr.Slice (some _) (some _) none _) (Value.str (Mine.S _) _) _) _ _ _); (with_reducible rename Fr _ _ _ _ => wF); (with_reducible rename News _ _ _ _ => wN); (refine Mine.slice_SS_mid wF wN (by walk_at "OM") (by walk_at "OM") (by walk_at "OM") (by walk_at "OM") ?_); intro _ _ _ _ _))
  (k_with "subscriptTail BinOp Slice str ref" => (k_here; (with_reducible show wpAny _ _ (subscriptTail _ (Expr.Slice none none (some _) _) (Value.str (Mine.S _) _) _) _ _ _); (with_reducible rename Fr _ _ _ _ => wF); (with_reducible rename News _ _ _ _ => wN); (refine Mine.slice_SS_rev wF wN (by walk_at "OM") ?_); intro _ _ _ _ _))
  (k_with "pyIter ref" => ((with_reducible show wpAny _ _ (pyIter (Value.ref _)) (fun _ _ => LoopAtV _ _ _ _ _ _ _ _ _ _ _) _ _); refine Mine.Halt.go ?_))
  (k_with "pyIter str" => ((with_reducible show wpAny _ _ (pyIter (Value.str _ _)) (fun _ _ => LoopAtV _ _ _ _ _ _ _ _ _ _ _) _ _); refine Mine.Halt.go ?_))
  (k_with "exec For Name Name cons nil" => (k_here; (rename Fr _ _ _ _ => wlF); (with_unfolding_all refine For_invVF wlF (by exact rfl) (by exact rfl) ?_; k_whole)))
  (k_with "exec For Name Call cons nil" => (k_here; (rename Fr _ _ _ _ => wlF); (with_unfolding_all refine For_invVF wlF (by exact rfl) (by exact rfl) ?_; k_whole)))
  (k_with "exec For Name Subscript cons nil" => (k_here; (rename Fr _ _ _ _ => wlF); (with_unfolding_all refine For_invVF wlF (by exact rfl) (by exact rfl) ?_; k_whole)))
  (k_with "exec For Name Tuple cons nil" => (k_here; (rename Fr _ _ _ _ => wlF); (with_unfolding_all refine For_invVF wlF (by exact rfl) (by exact rfl) ?_; k_whole)))
  (k_with "KswEnd" => (refine Mine.Halt.go ?_))
  (k_with "ExitPost" => (refine Mine.Halt.go ?_))
  (k_with "LcEnd" => (refine Mine.Halt.go ?_))
  (k_with "LcBrk" => (refine Mine.Halt.go ?_))
  (k_with "LcPost" => (dsimp only [Mine.LcPost]))
  (k_with "eval ListComp" => (k_here; first | ((with_reducible show wpAny _ _ (eval (Expr.ListComp _ [⟨_, _, [], _⟩] _ _) _) _ _ _); k_dflt (refine Mine.comp_EU (by with_unfolding_all rfl) (by decide) (by rfl) (by decide) (by rfl) ?_)) | ((with_reducible show wpAny _ _ (eval (Expr.ListComp _ [⟨_, _, [_], _⟩] _ _) _) _ _ _); k_dflt (refine Mine.comp_ET (by with_unfolding_all rfl) (by decide) (by rfl) (by decide) (by rfl) ?_))))
  (k_with "exec Assign cons ListComp" => (k_here; first | ((with_reducible show wpAny _ _ (exec (Stmt.Assign _ (Expr.ListComp _ [⟨_, _, [], _⟩] _ _) _) _) _ _ _); k_dflt (refine Mine.comp_AU (by with_unfolding_all rfl) (by with_unfolding_all rfl) (by decide) (by rfl) (by decide) (by rfl) (by rfl) (by rfl) ?_)) | ((with_reducible show wpAny _ _ (exec (Stmt.Assign _ (Expr.ListComp _ [⟨_, _, [_], _⟩] _ _) _) _) _ _ _); k_dflt (refine Mine.comp_AT (by with_unfolding_all rfl) (by with_unfolding_all rfl) (by decide) (by rfl) (by decide) (by rfl) (by rfl) (by rfl) ?_))))
  (k_with "pyIter ref" => (first | ((with_reducible show wpAny _ _ (pyIter (Value.ref _)) (Mine.CompAtT _ _ _ _ _ _ _ _ _ _) _ _); refine Mine.Halt.go ?_) | ((with_reducible show wpAny _ _ (pyIter (Value.ref _)) (Mine.CompAtU _ _ _ _ _ _ _ _ _) _ _); refine Mine.Halt.go ?_)))
  (k_with "pyIter str" => (first | ((with_reducible show wpAny _ _ (pyIter (Value.str _ _)) (Mine.CompAtT _ _ _ _ _ _ _ _ _ _) _ _); refine Mine.Halt.go ?_) | ((with_reducible show wpAny _ _ (pyIter (Value.str _ _)) (Mine.CompAtU _ _ _ _ _ _ _ _ _) _ _); refine Mine.Halt.go ?_)))
  (k_with "TestPost" => (refine And.intro (fun whb => ?_) (fun whb => ?_) <;> (try (exact absurd whb (by decide)))))
  (k_with "CompEnd" => (refine Mine.Halt.go ?_))
  (k_with "FinE" => (refine Mine.Halt.go ?_))
  (k_with "FinA" => (refine Mine.Halt.go ?_))
  (k_with "compareOp NotEq ref ref" => (k_here; refine Mine.ne_nil (by k_asm) (by k_mem) (by k_mem) (by ktr_units) ?_))
  (k_with "compareOp Eq ref ref" => (k_here; refine Mine.eq_nil (by k_asm) (by k_mem) (by k_mem) (by ktr_units) ?_))
  (k_with "call ref" => ((with_reducible show wpAny _ _ (call (Value.ref 56) _) _ _ _); refine Mine.Halt.go ?_))
  revert X
  k_fill
  intro X
  k_dflt (refine' call_cls ?k1 ?k2 ?k3 ?k4 ?k5 ?k6 ?_; (case k1 => k_asm); (case k2 => k_asm); (case k3 => k_asm); (case k4 => k_is); (case k5 => k_is); (case k6 => k_is); k_whole; intro x' d' h' F' N' l1 l2)
  have hl1 := l1
  (try k_lt l1)
  (try k_lt2 l2)
  k_dflt cell_enter
  rename_i g' L' h' FG' F' N' B' X' T'
  replace F' := fr_norm [(Str.ofString "ruletable", .str (S (joinC 10 A₁)) t), (Str.ofString "self", .ref x')] F' rfl
  repeat' (first | (k_unfold; (try dsimp only)) | ((fail_if_success (with_reducible show Mine.Halt _)); k_end; wrow_close) | walk1 | (dsimp only; walk1) | (leave1; walk_say "STEP leave1"; try dsimp only) | fail "no step")
  (with_reducible rename Fr _ _ _ _ => hF)
  (with_reducible rename News _ _ _ _ => hN)
  (with_reducible rename Addr => rd)
  (with_reducible rename ((rd == sysModules) = false) => hrd)
  (with_reducible rename (_ ∧ _ ∧ AllLt rd _) => lr)
  refine Halt.out ?_
  have hnl := ltOf lr.2.2
  refine' c_read_rules (x := x') (d := d') (rd := rd) ?kB hF ?kX hN ?kT ?kK ?kd ?ku ?s1 ?s2 ?s3 ?s4 hrd hA0 hA1 hA2 hA3 hA4 hA5 ?g1 ?g2
  case kB => k_asm
  case kX => k_asm
  case kT => k_asm
  case kK => first | exact rfl | assumption
  case kd => ktr_room
  case ku => (simp only [units_deeper, units_under_make]; omega)
  case s1 => exact .tail _ (.head _)
  case s2 => exact .tail _ (.tail _ (.head _))
  case s3 => exact .head _
  case s4 => assumption
  case g1 =>
    intro rs hrs nw o9 kvs h9 tk9 F9 N9 hk9 hT
    repeat' (first | (k_unfold; (try dsimp only)) | ((fail_if_success (with_reducible show Mine.Halt _)); k_end; wrow_close) | walk1 | (dsimp only; walk1) | (leave1; walk_say "STEP leave1"; try dsimp only) | fail "no step")
    have hx9 := hk9 _ (.tail _ (.head _)) (Nat.ne_of_lt lr.1)
    have hd9 := hk9 _ (.tail _ (.tail _ (.head _))) (Nat.ne_of_lt lr.2.1)
    exact hret rs hrs x' nw _ _ (by assumption) (by assumption) (fun p hp => hk9 p (.tail _ (.tail _ (.tail _ hp))) (Nat.ne_of_lt (hnl p hp))) ⟨d', _, _, rd, _, o9, kvs, hx9, hd9, hrd, hT⟩
  case g2 =>
    intro hno g e te vs h9 tk9 F9 R9 U9
    repeat' (first | (k_unfold; (try dsimp only)) | ((fail_if_success (with_reducible show Mine.Halt _)); k_end; wrow_close) | walk1 | (dsimp only; walk1) | (leave1; walk_say "STEP leave1"; try dsimp only) | fail "no step")
    refine hbad hno _ _ _ _ _ _ (by assumption) (raised_less (by assumption) ?_) (by assumption)
    intro p hp
    exact mem_others.mpr ⟨.tail _ (.tail _ (.tail _ hp)), Nat.ne_of_lt (hnl p hp)⟩
end Mine

end
section
namespace Mine
section
variable {prog : Program} {w : World} {A : Around} {E : Value → Shared → Prop} {s : Shared} {env : Env} {h₀ : Heap} {x : Str} {body : List Stmt} {Q : Flow → Shared → Prop} {target iter : PySem.Expr} {pos : Pos}
/-- a for loop whose target is no bare name stands before its turns -/
noncomputable def LoopAtX (prog : Program) (w : World) (A : Around) (env : Env) (target : PySem.Expr) (body : List Stmt) (Q : Flow → Shared → Prop) (E : Value → Shared → Prop) (it : Value) (s₂ : Shared) : Prop :=
  codeAny (model prog w) A (.forLoop target it body [] env) (fun r s' => match r with | .ok f => Q f s' | .error e => cameBackBy (model prog w) A env E e s') s₂
noncomputable def XInv {σ : Type} (h₀ : Heap) (L I l : Addr) (vs : List Value) (x : Str) (Led : σ → List (Addr × Obj)) (ps : σ → List (Str × Value)) (stored : List Str) (m₀ : Str → Option Value) (J : Nat → σ → Prop) (s : Shared) (k : Nat) (s' : Shared) : Prop :=
  ∃ (h' : Heap) (tk : Nat) (m' : Str → Option Value) (c : σ) (i : Nat), s' = { s with heap := h', toks := tk } ∧ (h'.IsListIter I l i ∧ h'.IsList l vs.toArray) ∧ Fr h₀ L h' m' ∧ News h₀ L h' (Led c) ∧ (∀ p ∈ Led c, p.1 ≠ I) ∧
      (∀ p ∈ ps c, m' p.1 = some p.2) ∧ (∀ z, z ≠ x → (∀ p ∈ ps c, z ≠ p.1) → stored.contains z = false → m' z = m₀ z) ∧ J i c ∧ i ≤ vs.length ∧ k = vs.length + 1 - i
theorem For_X (h : wpAny (model prog w) A (eval iter env) (fun xv s₁ => wpAny (model prog w) A (pyIter xv) (LoopAtX prog w A env target body Q E) E s₁) E s) (hs : ∀ x, foldedSetIterable iter env x = pure x := by intro _; rfl) :
    wpAny (model prog w) A (exec (.For target iter body [] pos) env) Q E s := wpAny_For h hs
theorem xlist_cut {σ : Type} {l : Addr} {vs : List Value} {nn : Nat} {m₀ : Str → Option Value} (x : Str) (Led : σ → List (Addr × Obj)) (ps : σ → List (Str × Value)) (stored : List Str) (J : Nat → σ → Prop) (D : σ → Prop) (c₀ : σ)
    (hh : A.handled = none) (hl : (l, listOf vs.toArray nn) ∈ Led c₀) (F : Fr h₀ env.locals s.heap m₀) (N : News h₀ env.locals s.heap (Led c₀)) (hk : ∀ p ∈ ps c₀, m₀ p.1 = some p.2) (hj : J 0 c₀)
    (turn : ∀ i v c (u : Str → Option Value) h tk own I, i < vs.length → vs[i]? = some v → J i c → (∀ p ∈ Led c, p.1 ≠ I) →
      Fr h₀ env.locals h (fun y => if y = x then u y else kstB (fun z => if stored.contains z then u z else m₀ z) (ps c) y) → News h₀ env.locals h (Led c ++ own) →
      wpAny (model prog w) A (assign target env v) (fun _ s₃ => wpAny (model prog w) A (execs body env) (LcPost h₀ env.locals x [I] own Led ps stored m₀ (J (i + 1)) D { s with heap := h, toks := tk } Q) E s₃) E { s with heap := h, toks := tk })
    (brk : ∀ c (u : Str → Option Value) h tk, D c → Fr h₀ env.locals h (fun y => if y = x then u y else kstB (fun z => if stored.contains z then u z else m₀ z) (ps c) y) → News h₀ env.locals h (Led c) → Q .next { s with heap := h, toks := tk })
    (done : ∀ c (u : Str → Option Value) h tk, J vs.length c → Fr h₀ env.locals h (fun y => if y = x then u y else kstB (fun z => if stored.contains z then u z else m₀ z) (ps c) y) → News h₀ env.locals h (Led c) → Q .next { s with heap := h, toks := tk })
    (hE : PassesOwn (model prog w) A env E) : wpAny (model prog w) A (pyIter (.ref l)) (LoopAtX prog w A env target body Q E) E s := by
  have hlN := N _ hl
  have hls : s.heap.IsList l vs.toArray := ⟨_, hlN.1, rfl, nn, rfl⟩
  have hlt : l < s.heap.objs.size := Heap.lt_size hlN.1
  have hne : l ≠ s.heap.objs.size := Nat.ne_of_lt hlt
  refine wpAny_pyIter_list hls ?_
  have W := Walks.list (prog := prog) (w := w) hh s.heap.objs.size l hne vs.toArray
  rw [List.size_toArray] at W
  have hIL : env.locals ≠ s.heap.objs.size := Nat.ne_of_lt F.ns.lt
  have hlL : env.locals ≠ l := fun e => hlN.2.1 e.symm
  have hLf : env.locals ∉ [s.heap.objs.size, l] := by
    intro hm
    rcases List.mem_cons.mp hm with e | hm
    · exact hIL e
    · exact hlL (List.mem_singleton.mp hm)
  have hI₀ : h₀.get? s.heap.objs.size = none := next_is_new F
  have old : ∀ b o, h₀.get? b = some o → b ∉ [s.heap.objs.size] := fun b o e hb => by rw [List.mem_singleton.mp hb, hI₀] at e; cases e
  have hoff0 : ∀ p ∈ Led c₀, p.1 ≠ s.heap.objs.size := fun p hp => Nat.ne_of_lt (Heap.lt_size (N p hp).1)
  refine codeAny_forLoop_any
    (XInv h₀ env.locals s.heap.objs.size l vs x Led ps stored m₀ J s) ?_ (vs.length + 1)
    ⟨_, s.toks, m₀, c₀, 0, rfl, ⟨⟨_, Heap.get?_push_size _ rfl, rfl, rfl⟩, hls.at fun o e => Heap.get?_push_of_some _ e⟩, F.push _, (fun p hp => ⟨Heap.get?_push_of_some _ (N p hp).1, (N p hp).2⟩), hoff0, hk, (fun _ _ _ _ => rfl), hj, Nat.zero_le _, rfl⟩
  rintro k s' ⟨h', tk, m', c, i, rfl, hst', F', N', hoff, h1, h2, hJ, hi, rfl⟩
  have next : ∀ h₁ : Heap, (∀ b o, b ∉ [s.heap.objs.size] → h'.get? b = some o → h₁.get? b = some o) → Fr h₀ env.locals h₁ m' ∧ News h₀ env.locals h₁ (Led c) := fun h₁ hk₁ =>
    ⟨⟨F'.ns.at' fun o e => hk₁ _ o (by simpa using hIL) e, fun b o e => hk₁ b o (old b o e) (F'.keep b o e), F'.above⟩, fun p hp => ⟨hk₁ _ _ (by simpa using hoff p hp) (N' p hp).1, (N' p hp).2⟩⟩
  by_cases hlt' : i < vs.length
  · refine W.item i _ _ _ hlt' hst' fun v h₁ tk₁ hP hst₁ hk₁ => ?_
    obtain ⟨F₁, N₁⟩ := next h₁ hk₁
    have Nown : News h₀ env.locals h₁ (ownOf h₀ [s.heap.objs.size, l] h₁) := news_ownOf hLf
    refine letGo_listiter hst₁.1 ?_
    have N₂ : News h₀ env.locals h₁ (Led c ++ ownOf h₀ [s.heap.objs.size, l] h₁) := fun p hp => (List.mem_append.mp hp).elim (N₁ p) (Nown p)
    have T := turn i v c m' h₁ tk₁ (ownOf h₀ [s.heap.objs.size, l] h₁) s.heap.objs.size hlt' (by simpa using hP) hJ hoff (kst_frOut h1 h2 F₁) N₂
    refine wpAny_passesOwn hE (wpAny_mono T (fun _ s₂ h₂ => wpAny_passesOwn hE (wpAny_mono h₂ (fun f s₃ h₃ => ?_) fun _ _ e => e)) fun _ _ e => e)
    have fin : LcEnd h₀ env.locals x [s.heap.objs.size] (ownOf h₀ [s.heap.objs.size, l] h₁) Led ps stored m₀ (J (i + 1)) { s with heap := h₁, toks := tk₁ } s₃ → ∃ m, m < vs.length + 1 - i ∧ XInv h₀ env.locals s.heap.objs.size l vs x Led ps stored m₀ J s m s₃ := by
      rintro ⟨c', h₃', tk₃, m₃, news₃, e, F₃, N₃, ho, hn, hoff₃, hk₃, hr₃, hJ₃⟩
      refine ⟨vs.length + 1 - (i + 1), by omega, h₃', tk₃, m₃, c', i + 1, e, W.frame _ _ _ hst₁ fun b hb o eb => ?_, F₃, fun p hp => N₃ p (hn p hp), fun p hp => by simpa using hoff₃ p hp, hk₃, hr₃, hJ₃, hlt', rfl⟩
      cases hn0 : h₀.get? b with
      | some o₀ =>
        have : o₀ = o := by have := F₁.keep b o₀ hn0; rw [eb] at this; exact (Option.some.inj this).symm
        exact this ▸ F₃.keep b o₀ hn0
      | none => exact (N₃ _ (ho _ (mem_ownOf hb hn0 eb))).1
    cases f with
    | next => exact fin h₃
    | cont => exact fin h₃
    | brk =>
      obtain ⟨c', h₃', tk₃, m₃, news₃, e, F₃, N₃, hn, hk₃, hr₃, hD⟩ := h₃
      show Q .next s₃
      rw [e]
      exact brk c' m₃ h₃' tk₃ hD (kst_frOut hk₃ hr₃ F₃) fun p hp => N₃ p (hn p hp)
    | ret v => exact h₃
  · have hin : i = vs.length := by omega
    subst hin
    refine W.done _ _ _ hst' fun h₁ tk₁ hk₁ => wpAny_execs_nil ?_
    obtain ⟨F₁, N₁⟩ := next h₁ hk₁
    exact done c m' h₁ tk₁ hJ (kst_frOut h1 h2 F₁) N₁
end
end Mine

end
section
open PySem.Calls
namespace Mine
noncomputable def lower (l : List Nat) : Prop := ∀ c ∈ l, 97 ≤ c ∧ c ≤ 122
theorem run_all {f : Nat → Bool} {l : List Nat} (h : ∀ c ∈ l, f c = true) : run f l 0 = l.length := by
  unfold run
  rw [List.drop_zero, Nat.zero_add]
  have : l.takeWhile f = l := by
    induction l with
    | nil => rfl
    | cons a r ih => rw [List.takeWhile_cons, h a (.head _)]; simp [ih fun c hc => h c (.tail _ hc)]
  rw [this]
theorem lower_run {l : List Nat} (h : lower l) : wordRun l 0 = l.length := run_all fun c hc => by
  obtain ⟨h1, h2⟩ := h c hc
  simp [isW, h1, h2]
theorem bareOf_len (l : List Nat) : ∀ zs, (bareOf zs l).length ≤ l.length
  | [] => Nat.le_refl _
  | z :: r => by
    unfold bareOf
    split
    · rw [List.length_drop]; omega
    · exact bareOf_len l r
theorem bare_len (l : List Nat) : (bare l).length ≤ l.length := bareOf_len l _
theorem stem_cases {rs : List Rule} {n : Nat} {st y : List Nat} {b : Bool} (h : stemmed rs n st b = some y) : voiced st = true ∧ ((rs.filter (fitsB st b) = [] ∧ y = st) ∨
    ∃ r rest, rs.filter (fitsB st b) = r :: rest ∧ ((r.onward = true ∧ ∃ k, stemmed rs k (st.take (st.length - r.gone) ++ r.given) false = some y) ∨ (r.onward = false ∧ y = st.take (st.length - r.gone) ++ r.given))) := by
  cases n with
  | zero => cases h
  | succ k =>
    rw [stemmed] at h
    cases hv : voiced st with
    | false => rw [hv, if_pos rfl] at h; cases h
    | true =>
      rw [hv, if_neg Bool.noConfusion] at h
      refine ⟨rfl, ?_⟩
      generalize rs.filter (fitsB st b) = fl at h
      cases fl with
      | nil => left; cases h; exact ⟨rfl, rfl⟩
      | cons r rest =>
        right
        refine ⟨r, rest, rfl, ?_⟩
        dsimp only at h
        cases ho : r.onward with
        | true => rw [ho, if_pos rfl] at h; exact .inl ⟨rfl, k, h⟩
        | false =>
          rw [ho, if_neg Bool.noConfusion] at h
          split at h
          · cases h; exact .inr ⟨rfl, rfl⟩
          · cases h
theorem fits_last {st : List Nat} {b : Bool} {r : Rule} (he : r.ending ≠ []) (h : fitsB st b r = true) : lastIs (st.getD (st.length - 1) 0) r = true := by
  unfold fitsB at h
  simp only [Bool.and_eq_true] at h
  obtain ⟨u, hu⟩ := List.isSuffixOf_iff_suffix.mp h.1.1
  have hp := List.length_pos_iff.mpr he
  unfold lastIs
  rw [decide_eq_true_eq, ← hu, List.getLast?_eq_getElem?, List.getElem?_eq_getElem (by omega)]
  congr 1
  simp only [List.getD_eq_getElem?_getD, List.length_append]
  rw [List.getElem?_append_right (by omega), List.getElem?_eq_getElem (by omega)]
  simp only [Option.getD_some]
  congr 1
  omega
theorem fits_same {rs : List Rule} {st : List Nat} {b : Bool} (he : ∀ r ∈ rs, r.ending ≠ []) : (rs.filter (lastIs (st.getD (st.length - 1) 0))).filter (fitsB st b) = rs.filter (fitsB st b) := by
  rw [List.filter_filter]
  refine List.filter_congr fun r hr => ?_
  cases h : fitsB st b r with
  | false => rfl
  | true => rw [fits_last (he r hr) h]; rfl
theorem least_of {st : List Nat} {p : Int} (hq : p = 0 ↔ isVowel (st.getD 0 0) = true) : ((least st : Nat) : Int) = if p = 0 then 2 else 3 := by
  unfold least
  by_cases h : p = 0
  · rw [if_pos h, if_pos (hq.mp h)]; rfl
  · rw [if_neg h, if_neg fun e => h (hq.mpr e)]; rfl
theorem filter_hit {p : Rule → Bool} {fl : List Rule} {i : Nat} {r : Rule} (hr : fl[i]? = some r) (h : (fl.take (i + 1)).filter p = [r]) : ∃ rest, fl.filter p = r :: rest := by
  refine ⟨(fl.drop (i + 1)).filter p, ?_⟩
  have e : fl.filter p = (fl.take (i + 1)).filter p ++ (fl.drop (i + 1)).filter p := by rw [← List.filter_append, List.take_append_drop]
  rw [e, h]
  rfl
structure IfMark : Prop
theorem whole_or : ∀ x y : Bool, (x && !y) = false → (y || !x) = true := by decide
theorem suffix_len {a b : List Nat} (h : a.isSuffixOf b = true) : a.length ≤ b.length := (List.isSuffixOf_iff_suffix.mp h).length_le
theorem get_dict {prog : Program} {w : World} {A : Around} {E : Value → Shared → Prop} {s : Shared} {h₀ : Heap} {L d : Addr} {news : List (Addr × Obj)} {o : Obj} {kvs : List (Str × Value)} {k : Str} {t : Tok} {Q : Value → Shared → Prop} {v : Value} (N : News h₀ L s.heap news) (hm : (d, o) ∈ news) (hd : o.IsDictOf (PySem.strKind prog w) kvs) (lo : (d == sysModules) = false) (hv : (valueAt kvs k).getD .none = v)
    (h : Q v { s with toks := s.toks + 1 }) : wpAny (model prog w) A (call (.builtin "dict.get") [.ref d, .str k t]) Q E s := by
  have hD := kda_dict N hm hd
  exact call_meetsIn PySem.F.slot_dict_get hD.typeIs PySem.F.entry_dict_get (PySem.F.args_dict_get_2 _ _) (meets_dict_get (PySem.strKind _ _) d (strKind_is _ _ _ _) lo) ⟨_, hD.mapOf, hv ▸ h⟩
theorem get_meth {prog : Program} {w : World} {A : Around} {E : Value → Shared → Prop} {s : Shared} {h₀ : Heap} {L d : Addr} {news : List (Addr × Obj)} {o : Obj} {kvs : List (Str × Value)} {pl : Sem Bool} {Q : Value × List Value → Shared → Prop} (N : News h₀ L s.heap news) (hm : (d, o) ∈ news) (hd : o.IsDictOf (PySem.strKind prog w) kvs)
    (h : Q (.builtin "dict.get", [.ref d]) s) : wpAny (model prog w) A (getMethod (.ref d) "get" pl) Q E s := by
  have hD := kda_dict N hm hd
  exact getMethod_builtin hD.typeIs PySem.F.plainAttrs_dict PySem.F.slot_dict_get PySem.F.type_dict_get hD.mapOf.noDict h
end Mine


namespace Mine
theorem c_stem {w : World} {mean : ExcName → Option Value} {mg mb : Str → Option Value} {dp un : Nat} {gd : Option (List Code)} {cn : Str} {cs : Scope} {a : Addr} {ccd : Value} {cl : List (Str × Addr)} {outer : List Env} {A₀ : Around} {base h₀ : Heap} {L : Addr} {m : Str → Option Value} {news : List (Addr × Obj)} {s : Shared} {Q E : Value → Shared → Prop}
    {x : Addr} {l : List Nat} {t : Tok} {rs : List Rule} {n : Nat}
    (B : Below A₀ base outer h₀) (F : Fr h₀ L s.heap m) (X : (hd.heap_39 w.params).In h₀) (N : News h₀ L s.heap news) (T : Top hd.view_39 (looseW hd.view_39 [Str.ofString "_law_starts"]) mean mg mb h₀) (hk : cs.kind = .function)
    (hdp : dp + 12 < recursionLimit) (hun : un + 200 < cLine)
    (hst : Stemmer PySem.Challenge.rw_iv0074_01.row.prog w news x rs) (hlow : lower l) (hl : l.length ≤ 200) (hgr : ∀ r ∈ rs, GoodRule r) (hge : ∀ r ∈ rs, r.ending ≠ []) (hrl : rs.length ≤ 1000)
    {y : List Nat} (hy : (l = [] ∧ y = []) ∨ (l ≠ [] ∧ stemmed rs n (bare l) true = some y)) (hret : ∀ t h' tk', Fr h₀ L h' m → News h₀ L h' news → Q (.str (S y) t) { s with heap := h', toks := tk' }) :
    wpAny (model PySem.Challenge.rw_iv0074_01.row.prog w) (ktrTop dp un gd cn cs L a ccd cl outer) (call (.ref 75) [.ref x, .str (S l) t]) Q E s := by
  w_top off
  k_with_none
  (k_with "eval Constant str" => (k_here; first | (with_reducible refine Mine.const_S Mine.lit_0 ?_) | (with_reducible refine Mine.const_S Mine.lit_1 ?_) | (with_reducible refine Mine.const_S Mine.lit_2 ?_) | (with_reducible refine Mine.const_S Mine.lit_3 ?_) | (with_reducible refine Mine.const_S Mine.lit_4 ?_) | (with_reducible refine Mine.const_S Mine.lit_5 ?_) | (with_reducible refine Mine.const_S Mine.lit_6 ?_) | (with_reducible refine Mine.const_S Mine.lit_7 ?_) | (with_reducible refine Mine.const_S Mine.lit_8 ?_) | (with_reducible refine Mine.const_S Mine.lit_9 ?_) | (with_reducible refine Mine.const_S Mine.lit_10 ?_) | (with_reducible refine Mine.const_S Mine.lit_11 ?_) | (with_reducible refine Mine.const_S Mine.lit_12 ?_) | (with_reducible refine Mine.const_S Mine.lit_13 ?_) | (with_reducible refine Mine.const_S Mine.lit_14 ?_) | (with_reducible refine Mine.const_S Mine.lit_15 ?_) | (with_reducible refine Mine.const_S Mine.lit_16 ?_) | (with_reducible refine Mine.const_S Mine.lit_17 ?_) | (with_reducible refine Mine.const_S Mine.lit_18 ?_) | (with_reducible refine Mine.const_S Mine.lit_19 ?_) | (with_reducible refine Mine.const_S Mine.lit_20 ?_) | (with_reducible refine Mine.const_S Mine.lit_21 ?_) | (with_reducible refine Mine.const_S Mine.lit_22 ?_) | (with_reducible refine Mine.const_S Mine.lit_23 ?_) | (with_reducible refine Mine.const_S Mine.lit_24 ?_) | (with_reducible refine Mine.const_S Mine.lit_25 ?_) | (with_reducible refine Mine.const_S Mine.lit_26 ?_) | (with_reducible refine Mine.const_S Mine.lit_27 ?_) | (with_reducible refine Mine.const_S Mine.lit_28 ?_) | (with_reducible refine Mine.const_S Mine.lit_29 ?_) | (with_reducible refine Mine.const_S Mine.lit_30 ?_) | (with_reducible refine Mine.const_S Mine.lit_31 ?_) | (with_reducible refine Mine.const_S Mine.lit_32 ?_) | (with_reducible refine Mine.const_S Mine.lit_33 ?_) | (with_reducible refine Mine.const_S Mine.lit_34 ?_); intro _ _))
  (k_with "eval IfExp" => (k_here; first | (with_reducible refine Mine.ifexp_S Mine.lit_7 Mine.lit_12 (by decide) (by decide) ?_) | (with_reducible refine Mine.ifexp_S Mine.lit_9 Mine.lit_8 (by decide) (by decide) ?_)))
  (k_with "call builtin:len" => (k_here; (with_reducible show wpAny _ _ (call (Value.builtin "len") [Value.str (Mine.S _) _]) _ _ _); (refine Mine.len_S (by walk_at "OM") ?_); intro _ _))
  (k_with "truthy str" => (k_here; (with_reducible show wpAny _ _ (PySem.truthy (Value.str (Mine.S _) _)) _ _ _); (refine Mine.truthy_S (by walk_at "OM") ?_); intro _))
  (k_with "compareOp LtE str str" => (k_here; (with_reducible refine Mine.le_S ?_)))
  (k_with "compareOp Eq str str" => (k_here; (with_reducible refine Mine.eq_SS ?_)))
  (k_with "compareOp NotEq str str" => (k_here; (with_reducible refine Mine.ne_SS ?_)))
  (k_with "compareOp NotIn str str" => (k_here; (with_reducible refine Mine.notin_S ?_)))
  (k_with "binaryOp Add str str" => (k_here; (with_reducible show wpAny _ _ (binaryOp Operator.Add (Value.str (Mine.S _) _) (Value.str (Mine.S _) _)) _ _ _); (refine Mine.add_S (by walk_at "OM") ?_); intro _ _))
  (k_with "call builtin:str.find" => (k_here; (with_reducible refine Mine.find_SS ?_); intro _ _))
  (k_with "call builtin:str.startswith" => (k_here; (with_reducible refine Mine.starts_SS ?_)))
  (k_with "call builtin:str.endswith" => (k_here; (with_reducible refine Mine.ends_SS ?_)))
  (k_with "call builtin:str.strip" => (k_here; (with_reducible show wpAny _ _ (call (Value.builtin "str.strip") [Value.str (Mine.S _) _]) _ _ _); (refine Mine.strip_SS (by walk_at "OM") ?_); intro _ _))
  (k_with "subscriptTail Name Name str int" => (k_here; (with_reducible show wpAny _ _ (subscriptTail _ _ (Value.str (Mine.S _) _) (Value.int _ _)) _ _ _); (refine Mine.item_SS (by walk_at "OM") (by walk_at "OM") (by walk_at "OM") ?_); intro _ _))
  (k_with "subscriptTail Name Constant str int" => (k_here; (with_reducible show wpAny _ _ (subscriptTail _ _ (Value.str (Mine.S _) _) (Value.int _ _)) _ _ _); (refine Mine.item_SS (by walk_at "OM") (by walk_at "OM") (by walk_at "OM") ?_); intro _ _))
  (k_with "subscriptTail Name BinOp str int" => (k_here; (with_reducible show wpAny _ _ (subscriptTail _ _ (Value.str (Mine.S _) _) (Value.int _ _)) _ _ _); (refine Mine.item_SS (by walk_at "OM") (by walk_at "OM") (by walk_at "OM") ?_); intro _ _))
  (k_with "subscriptTail Name UnaryOp str int" => (k_here; (with_reducible show wpAny _ _ (subscriptTail _ _ (Value.str (Mine.S _) _) (Value.int (-1) _)) _ _ _); (refine Mine.item_SL ?_ (by walk_at "OM") ?_); rotate_left; intro _ _))
  (k_with "subscriptTail Name Name str int" => (k_here; (with_reducible show wpAny _ _ (subscriptTail _ _ (Value.str (Str.ofString _) _) (Value.int _ _)) _ _ _); (refine Mine.item_lit Mine.lit_34 (by (first | omega | exact fmod_lo _ (by decide) | exact fmod_hi _ (by decide) | fail "no bound")) (by (first | omega | exact fmod_lo _ (by decide) | exact fmod_hi _ (by decide) | fail "no bound")) (by decide) ?_); intro _ _))
  (k_with "subscriptTail Name Slice str ref" => (k_here; (with_reducible show wpAny _ _ (subscriptTail _ (Expr.Slice none (some _) none _) (Value.str (Mine.S _) _) _) _ _ _); (with_reducible rename Fr _ _ _ _ => wF); (with_reducible rename News _ _ _ _ => wN); (first | (refine Mine.slice_SS_to wF wN (by walk_at "OM") (by walk_at "OM") ?_) | (refine Mine.slice_SS_neg wF wN (by walk_at "OM") (by walk_at "OM") (by walk_at "OM") ?_)); intro _ _ _ _ _))
  (k_with "subscriptTail Name Slice str ref" => (k_here; (with_reducible show wpAny _ _ (subscriptTail _ (Expr.Slice (some _) none none _) (Value.str (Mine.S _) _) _) _ _ _); (with_reducible rename Fr _ _ _ _ => wF); (with_reducible rename News _ _ _ _ => wN); (refine Mine.slice_SS_from wF wN (by walk_at "OM") (by walk_at "OM") ?_); intro _ _ _ _ _))
  (k_with "subscriptTail Name Slice str ref" => (k_here; (with_reducible show wpAny _ _ (subscriptTail _ (Expr.Slice (some _) (some _) none _) (Value.str (Mine.S _) _) _) _ _ _); (with_reducible rename Fr _ _ _ _ => wF); (with_reducible rename News _ _ _ _ => wN); (refine Mine.slice_SS_mid wF wN (by walk_at "OM") (by walk_at "OM") (by walk_at "OM") (by walk_at "OM") ?_); intro _ _ _ _ _))
  (k_with "subscriptTail Name Slice str ref" => (k_here; (with_reducible show wpAny _ _ (subscriptTail _ (Expr.Slice none none (some _) _) (Value.str (Mine.S _) _) _) _ _ _); (with_reducible rename Fr _ _ _ _ => wF); (with_reducible rename News _ _ _ _ => wN); (refine Mine.slice_SS_rev wF wN (by walk_at "OM") ?_); intro _ _ _ _ _))
  (k_with "subscriptTail BinOp Slice str ref" => (k_here; (with_reducible show wpAny _ _ (subscriptTail _ (Expr.Slice none (some _) none _) (Value.str (Mine.S _) _) _) _ _ _); (with_reducible rename Fr _ _ _ _ => wF); (with_reducible rename News _ _ _ _ => wN); (first | (refine Mine.slice_SS_to wF wN (by walk_at "OM") (by walk_at "OM") ?_) | (refine Mine.slice_SS_neg wF wN (by walk_at "OM") (by walk_at "OM") (by walk_at "OM") ?_)); intro _ _ _ _ _))
  (k_with "subscriptTail BinOp Slice str ref" => (k_here; (with_reducible show wpAny _ _ (subscriptTail _ (Expr.Slice (some _) none none _) (Value.str (Mine.S _) _) _) _ _ _); (with_reducible rename Fr _ _ _ _ => wF); (with_reducible rename News _ _ _ _ => wN); (refine Mine.slice_SS_from wF wN (by walk_at "OM") (by walk_at "OM") ?_); intro _ _ _ _ _))
  (k_with "subscriptTail BinOp Slice str ref" => (k_here; (with_reducible show wpAny _ _ (subscriptTail _ (Expr.Slice (some _) (some _) none _) (Value.str (Mine.S _) _) _) _ _ _); (with_reducible rename Fr _ _ _ _ => wF); (with_reducible rename News _ _ _ _ => wN); (refine Mine.slice_SS_mid wF wN (by walk_at "OM") (by walk_at "OM") (by walk_at "OM") (by walk_at "OM") ?_); intro _ _ _ _ _))
  (k_with "subscriptTail BinOp Slice str ref" => (k_here; (with_reducible show wpAny _ _ (subscriptTail _ (Expr.Slice none none (some _) _) (Value.str (Mine.S _) _) _) _ _ _); (with_reducible rename Fr _ _ _ _ => wF); (with_reducible rename News _ _ _ _ => wN); (refine Mine.slice_SS_rev wF wN (by walk_at "OM") ?_); intro _ _ _ _ _))
  (k_with "pyIter ref" => ((with_reducible show wpAny _ _ (pyIter (Value.ref _)) (fun _ _ => LoopAtV _ _ _ _ _ _ _ _ _ _ _) _ _); refine Mine.Halt.go ?_))
  (k_with "pyIter str" => ((with_reducible show wpAny _ _ (pyIter (Value.str _ _)) (fun _ _ => LoopAtV _ _ _ _ _ _ _ _ _ _ _) _ _); refine Mine.Halt.go ?_))
  (k_with "exec For Name Name cons nil" => (k_here; (rename Fr _ _ _ _ => wlF); (with_unfolding_all refine For_invVF wlF (by exact rfl) (by exact rfl) ?_; k_whole)))
  (k_with "exec For Name Call cons nil" => (k_here; (rename Fr _ _ _ _ => wlF); (with_unfolding_all refine For_invVF wlF (by exact rfl) (by exact rfl) ?_; k_whole)))
  (k_with "exec For Name Subscript cons nil" => (k_here; (rename Fr _ _ _ _ => wlF); (with_unfolding_all refine For_invVF wlF (by exact rfl) (by exact rfl) ?_; k_whole)))
  (k_with "exec For Name Tuple cons nil" => (k_here; (rename Fr _ _ _ _ => wlF); (with_unfolding_all refine For_invVF wlF (by exact rfl) (by exact rfl) ?_; k_whole)))
  (k_with "KswEnd" => (refine Mine.Halt.go ?_))
  (k_with "ExitPost" => (refine Mine.Halt.go ?_))
  (k_with "LcEnd" => (refine Mine.Halt.go ?_))
  (k_with "LcBrk" => (refine Mine.Halt.go ?_))
  (k_with "LcPost" => (dsimp only [Mine.LcPost]))
  (k_with "eval ListComp" => (k_here; first | ((with_reducible show wpAny _ _ (eval (Expr.ListComp _ [⟨_, _, [], _⟩] _ _) _) _ _ _); k_dflt (refine Mine.comp_EU (by with_unfolding_all rfl) (by decide) (by rfl) (by decide) (by rfl) ?_)) | ((with_reducible show wpAny _ _ (eval (Expr.ListComp _ [⟨_, _, [_], _⟩] _ _) _) _ _ _); k_dflt (refine Mine.comp_ET (by with_unfolding_all rfl) (by decide) (by rfl) (by decide) (by rfl) ?_))))
  (k_with "exec Assign cons ListComp" => (k_here; first | ((with_reducible show wpAny _ _ (exec (Stmt.Assign _ (Expr.ListComp _ [⟨_, _, [], _⟩] _ _) _) _) _ _ _); k_dflt (refine Mine.comp_AU (by with_unfolding_all rfl) (by with_unfolding_all rfl) (by decide) (by rfl) (by decide) (by rfl) (by rfl) (by rfl) ?_)) | ((with_reducible show wpAny _ _ (exec (Stmt.Assign _ (Expr.ListComp _ [⟨_, _, [_], _⟩] _ _) _) _) _ _ _); k_dflt (refine Mine.comp_AT (by with_unfolding_all rfl) (by with_unfolding_all rfl) (by decide) (by rfl) (by decide) (by rfl) (by rfl) (by rfl) ?_))))
  (k_with "pyIter ref" => (first | ((with_reducible show wpAny _ _ (pyIter (Value.ref _)) (Mine.CompAtT _ _ _ _ _ _ _ _ _ _) _ _); refine Mine.Halt.go ?_) | ((with_reducible show wpAny _ _ (pyIter (Value.ref _)) (Mine.CompAtU _ _ _ _ _ _ _ _ _) _ _); refine Mine.Halt.go ?_)))
  (k_with "pyIter str" => (first | ((with_reducible show wpAny _ _ (pyIter (Value.str _ _)) (Mine.CompAtT _ _ _ _ _ _ _ _ _ _) _ _); refine Mine.Halt.go ?_) | ((with_reducible show wpAny _ _ (pyIter (Value.str _ _)) (Mine.CompAtU _ _ _ _ _ _ _ _ _) _ _); refine Mine.Halt.go ?_)))
  (k_with "TestPost" => (refine And.intro (fun whb => ?_) (fun whb => ?_) <;> (try (exact absurd whb (by decide)))))
  (k_with "CompEnd" => (refine Mine.Halt.go ?_))
  (k_with "FinE" => (refine Mine.Halt.go ?_))
  (k_with "FinA" => (refine Mine.Halt.go ?_))
  (k_with "compareOp NotEq ref ref" => (k_here; refine Mine.ne_nil (by k_asm) (by k_mem) (by k_mem) (by ktr_units) ?_))
  (k_with "compareOp Eq ref ref" => (k_here; refine Mine.eq_nil (by k_asm) (by k_mem) (by k_mem) (by ktr_units) ?_))
  (k_with "call ref" => (k_here; (with_reducible show wpAny _ _ (call (Value.ref 21) [Value.str (Mine.S _) _, Value.int _ _]) _ _ _); k_dflt (first | (refine Mine.c_word_run  (by k_asm) (by k_asm) (by k_asm) (by k_asm) (by k_asm) (by first | exact rfl | assumption) (by ktr_room) (by ktr_units) (by walk_at "OM") (by walk_at "OM") ?_; k_whole; intro _ _ _ _ _; (try dsimp only); (try k_sweep); (try k_fold)) | (refine Mine.c_word_run (k := 0) (by k_asm) (by k_asm) (by k_asm) (by k_asm) (by k_asm) (by first | exact rfl | assumption) (by ktr_room) (by ktr_units) (by walk_at "OM") (by walk_at "OM") ?_; k_whole; intro _ _ _ _ _; (try dsimp only); (try k_sweep); (try k_fold)))))
  (k_with "subscriptTail Name UnaryOp str int" => (k_here; (with_reducible show wpAny _ _ (subscriptTail _ _ (Value.str (Mine.S _) _) (Value.int (-1) _)) _ _ _); (refine Mine.item_SL (by assumption) (by walk_at "OM") ?_); intro _ _))
  (k_with "call ref" => (k_here; (with_reducible show wpAny _ _ (call (Value.ref 68) [Value.ref _, Value.str (Mine.S _) _]) _ _ _); k_dflt (first | (refine Mine.c_strip_prefix  (by k_asm) (by k_asm) (by k_asm) (by k_asm) (by k_asm) (by first | exact rfl | assumption) (by ktr_room) (by ktr_units) (by walk_at "OM") ?_; k_whole; intro _ _ _ _ _; (try dsimp only); (try k_sweep); (try k_fold)))))
  (k_with "call ref" => (k_here; (with_reducible show wpAny _ _ (call (Value.ref 61) [Value.ref _, Value.str (Mine.S _) _]) _ _ _); k_dflt (first | (refine Mine.c_first_vowel  (by k_asm) (by k_asm) (by k_asm) (by k_asm) (by k_asm) (by first | exact rfl | assumption) (by ktr_room) (by ktr_units) (by walk_at "OM") (by assumption) ?_; k_whole; intro _ _ _ _ _ _ _ _; (try dsimp only); (try k_sweep); (try k_fold)))))
  (k_with "exec For Tuple Name cons nil" => (k_here; (with_unfolding_all refine Mine.For_X ?_ (by (intro _; rfl)))))
  (k_with "pyIter ref" => ((with_reducible show wpAny _ _ (pyIter (Value.ref _)) (Mine.LoopAtX _ _ _ _ _ _ _ _) _ _); refine Mine.Halt.go ?_))
  (k_with "exec While Name cons nil" => (refine Mine.Halt.go ?_))
  (k_with "KswEnd" => (refine Mine.Halt.go ?_))
  (k_with "ExitPost" => (refine Mine.Halt.go ?_))
  (k_with "exec If" => ((rename Mine.IfMark => im9); refine Mine.Halt.go ?_))
  (k_with "TestIs" => (refine Mine.Halt.go ?_))
  (k_with "call builtin:dict.get" => (refine Mine.Halt.go ?_))
  revert X
  k_fill
  intro X
  refine wpAny_call ?_
  k_dflt cell_enter
  rename_i g' L' h' FG' F' N' B' X' T'
  replace F' := fr_norm [(Str.ofString "word", .str (S l) t), (Str.ofString "self", .ref x)] F' rfl
  obtain ⟨d, kh, kt, rd, nn, o, kvs, hx, hd9, hrd, hT⟩ := hst
  have hw0 := lower_run hlow
  repeat' (first | (k_unfold; (try dsimp only)) | ((fail_if_success (with_reducible show Mine.Halt _)); k_end; wrow_close) | walk1 | (dsimp only; walk1) | (leave1; walk_say "STEP leave1"; try dsimp only) | fail "no step")
  rotate_left
  · have h0 : l = [] := by
      apply List.eq_nil_of_length_eq_zero
      omega
    obtain ⟨-, rfl⟩ : l = [] ∧ y = [] := hy.elim id (fun h => absurd h0 h.1)
    subst h0
    exact hret _ _ _ (by assumption) (by first | assumption | exact Mine.news_sub (by assumption) (by intro p hp; (try simp only [List.mem_append, List.mem_cons, List.not_mem_nil, or_false, or_assoc] at hp); first | (simp [hp]; done) | (with_reducible refine Or.elim hp (fun hp => ?_) (fun hp => ?_) <;> (first | (simp [hp]; done) | (with_reducible refine Or.elim hp (fun hp => ?_) (fun hp => ?_) <;> (first | (simp [hp]; done) | (with_reducible refine Or.elim hp (fun hp => ?_) (fun hp => ?_) <;> (first | (simp [hp]; done) | (with_reducible refine Or.elim hp (fun hp => ?_) (fun hp => ?_) <;> ((simp [hp]; done)))))))))))
  have hl0 : l ≠ [] := by
    rintro rfl
    rw [List.length_nil] at hw0
    omega
  have hs0 : stemmed rs n (bare l) true = some y := hy.elim (fun h => absurd h.1 hl0) (·.2)
  have hto : List.take ((wordRun l 0 : Nat) : Int).toNat l = l := by rw [Int.toNat_natCast, hw0, List.take_length]
  have hbl : (bare l).length ≤ l.length := bare_len l
  (with_reducible rename Fr _ _ _ _ => hF)
  rw [hto] at hF
  (with_reducible rename News _ _ _ _ => hN)
  refine Halt.out ?_
  refine' while_cut (σ := List Nat × Tok × Bool × Bool) (fun _ => news) (fun c => [(Str.ofString "continuing", .bool c.2.2.2), (Str.ofString "is_intact", .bool c.2.2.1), (Str.ofString "stem", .str (S c.1) c.2.1)]) [Str.ofString "pfv", Str.ofString "rulelist", Str.ofString "ending", Str.ofString "intact", Str.ofString "num", Str.ofString "append", Str.ofString "cont", Str.ofString "newlen"]
    (fun c => (c.2.2.2 = true → c.1.length ≤ 200 ∧ ∃ k, stemmed rs k c.1 c.2.2.1 = some y) ∧ (c.2.2.2 = false → c.1 = y)) (fun c => if c.2.2.2 then c.1.length + 1 else 0) (fun c => c.1 = y) (bare l, _, true, true) hF hN ?kk ⟨fun _ => ⟨Nat.le_trans hbl hl, n, hs0⟩, fun h => Bool.noConfusion h⟩ ?turn ?rest
  case kk => kst_all
  case rest =>
    clear hF hN
    rintro ⟨st, ts, bi, bc⟩ u h tk hj F' N'
    dsimp only at hj F' N' ⊢
    subst hj
    repeat' (first | (k_unfold; (try dsimp only)) | ((fail_if_success (with_reducible show Mine.Halt _)); k_end; wrow_close) | walk1 | (dsimp only; walk1) | (leave1; walk_say "STEP leave1"; try dsimp only) | fail "no step")
    exact hret _ _ _ (by assumption) (by first | assumption | exact Mine.news_sub (by assumption) (by intro p hp; (try simp only [List.mem_append, List.mem_cons, List.not_mem_nil, or_false, or_assoc] at hp); first | (simp [hp]; done) | (with_reducible refine Or.elim hp (fun hp => ?_) (fun hp => ?_) <;> (first | (simp [hp]; done) | (with_reducible refine Or.elim hp (fun hp => ?_) (fun hp => ?_) <;> (first | (simp [hp]; done) | (with_reducible refine Or.elim hp (fun hp => ?_) (fun hp => ?_) <;> (first | (simp [hp]; done) | (with_reducible refine Or.elim hp (fun hp => ?_) (fun hp => ?_) <;> ((simp [hp]; done)))))))))))
  case turn =>
    clear hF hN
    rintro ⟨st, ts, bi, bc⟩ u h tk hJ9 F' N'
    (try dsimp only)
    try k_fold
    obtain ⟨hj1, hj2⟩ := hJ9
    dsimp only at hj1 hj2 F' N'
    cases bc with
    | false =>
      repeat' (first | (k_unfold; (try dsimp only)) | ((fail_if_success (with_reducible show Mine.Halt _)); k_end; wrow_close) | walk1 | (dsimp only; walk1) | (leave1; walk_say "STEP leave1"; try dsimp only) | fail "no step")
      refine Halt.out (exit_at (st, ts, bi, false) (by assumption) (by assumption) (fun _ h => h) (by kst_all) (by first | (intro z h2 h3; (try dsimp only [kstB]); (repeat (refine Eq.trans (if_neg (by (first | exact h1 | exact Mine.off_stored h3 (by decide +kernel) | ((fail_if_success (exact Mine.not_stored h3)); exact Mine.sub_stored h3 (by decide +kernel)) | exact h2 _ (.head _) | exact h2 _ (.tail _ (.head _)) | exact h2 _ (.tail _ (.tail _ (.head _))) | exact h2 _ (.tail _ (.tail _ (.tail _ (.head _))))))) ?_)); first | exact if_neg (Mine.not_stored h3) | exact rfl) | (intro z h2 h3; (try simp only [List.forall_mem_cons, List.not_mem_nil, false_implies, implies_true, and_true, ne_eq] at h2); (try simp only [List.contains_cons, List.contains_nil, Bool.or_false, Bool.or_eq_false_iff, beq_eq_false_iff_ne, ne_eq] at h3); simp [kstB, h2, h3])) (hj2 rfl))
    | true =>
      obtain ⟨hsl, k, hk⟩ := hj1 rfl
      obtain ⟨hvo, hcs⟩ := stem_cases hk
      have hne : st ≠ [] := List.length_pos_iff.mp (voiced_pos hvo)
      repeat' (first | (k_unfold; (try dsimp only)) | ((fail_if_success (with_reducible show Mine.Halt _)); k_end; wrow_close) | walk1 | (dsimp only; walk1) | (leave1; walk_say "STEP leave1"; try dsimp only) | fail "no step")
      (with_reducible rename News _ _ _ _ => hN)
      refine get_meth hN hT.m hT.d ?_
      repeat' (first | (k_unfold; (try dsimp only)) | ((fail_if_success (with_reducible show Mine.Halt _)); k_end; wrow_close) | walk1 | (dsimp only; walk1) | (leave1; walk_say "STEP leave1"; try dsimp only) | fail "no step")
      refine Halt.out ?_
      (try k_fold)
      have hsame := fits_same (st := st) (b := bi) hge
      rcases hT.b (st.getD (st.length - 1) 0) with ⟨hva, hfl⟩ | ⟨a9, vs, n9, hva, hma, hR⟩
      · refine get_dict (v := .none) hN hT.m hT.d hrd (by rw [hva, Option.getD_none]) ?_
        rw [hfl, List.filter_nil] at hsame
        have hys : st = y := by
          rcases hcs with ⟨_, e⟩ | ⟨r, rest, e, _⟩
          · exact e.symm
          · rw [← hsame] at e; cases e
        repeat' (first | (k_unfold; (try dsimp only)) | ((fail_if_success (with_reducible show Mine.Halt _)); k_end; wrow_close) | walk1 | (dsimp only; walk1) | (leave1; walk_say "STEP leave1"; try dsimp only) | fail "no step")
        exact Halt.out (exit_at (st, ts, bi, true) (by assumption) (by assumption) (fun _ h => h) (by kst_all) (by first | (intro z h2 h3; (try dsimp only [kstB]); (repeat (refine Eq.trans (if_neg (by (first | exact h1 | exact Mine.off_stored h3 (by decide +kernel) | ((fail_if_success (exact Mine.not_stored h3)); exact Mine.sub_stored h3 (by decide +kernel)) | exact h2 _ (.head _) | exact h2 _ (.tail _ (.head _)) | exact h2 _ (.tail _ (.tail _ (.head _))) | exact h2 _ (.tail _ (.tail _ (.tail _ (.head _))))))) ?_)); first | exact if_neg (Mine.not_stored h3) | exact rfl) | (intro z h2 h3; (try simp only [List.forall_mem_cons, List.not_mem_nil, false_implies, implies_true, and_true, ne_eq] at h2); (try simp only [List.contains_cons, List.contains_nil, Bool.or_false, Bool.or_eq_false_iff, beq_eq_false_iff_ne, ne_eq] at h3); simp [kstB, h2, h3])) hys)
      · refine get_dict (v := .ref a9) hN hT.m hT.d hrd (by rw [hva, Option.getD_some]) ?_
        have hN4 := news_dup hN hma (fun p hp => hp)
        have hvl : vs.length ≤ 1000 := by
          have e1 := Paired.length hR
          have e2 : (rs.filter (lastIs (st.getD (st.length - 1) 0))).length ≤ rs.length := List.length_filter_le _ _
          omega
        (try k_fold)
        cases hvs : vs with
        | nil =>
          subst hvs
          have hys : st = y := by
            unfold Rules at hR
            have e3 : rs.filter (lastIs (st.getD (st.length - 1) 0)) = [] := by
              have := Paired.length hR
              exact List.eq_nil_of_length_eq_zero this
            rw [e3, List.filter_nil] at hsame
            rcases hcs with ⟨_, e⟩ | ⟨r, rest, e, _⟩
            · exact e.symm
            · rw [← hsame] at e; cases e
          repeat' (first | (k_unfold; (try dsimp only)) | ((fail_if_success (with_reducible show Mine.Halt _)); k_end; wrow_close) | walk1 | (dsimp only; walk1) | (leave1; walk_say "STEP leave1"; try dsimp only) | fail "no step")
          exact Halt.out (exit_at (st, ts, bi, true) (by assumption) (by assumption) (fun p hp => .tail _ hp) (by kst_all) (by first | (intro z h2 h3; (try dsimp only [kstB]); (repeat (refine Eq.trans (if_neg (by (first | exact h1 | exact Mine.off_stored h3 (by decide +kernel) | ((fail_if_success (exact Mine.not_stored h3)); exact Mine.sub_stored h3 (by decide +kernel)) | exact h2 _ (.head _) | exact h2 _ (.tail _ (.head _)) | exact h2 _ (.tail _ (.tail _ (.head _))) | exact h2 _ (.tail _ (.tail _ (.tail _ (.head _))))))) ?_)); first | exact if_neg (Mine.not_stored h3) | exact rfl) | (intro z h2 h3; (try simp only [List.forall_mem_cons, List.not_mem_nil, false_implies, implies_true, and_true, ne_eq] at h2); (try simp only [List.contains_cons, List.contains_nil, Bool.or_false, Bool.or_eq_false_iff, beq_eq_false_iff_ne, ne_eq] at h3); simp [kstB, h2, h3])) hys)
        | cons v0 vr =>
          subst hvs
          repeat' (first | (k_unfold; (try dsimp only)) | ((fail_if_success (with_reducible show Mine.Halt _)); k_end; wrow_close) | walk1 | (dsimp only; walk1) | (leave1; walk_say "STEP leave1"; try dsimp only) | fail "no step")
          (with_reducible rename Fr _ _ _ _ => hF)
          (with_reducible rename News _ _ _ _ => hN5)
          generalize hflk : rs.filter (lastIs (st.getD (st.length - 1) 0)) = flk at *
          have hflg : ∀ r ∈ flk, GoodRule r := fun r hr => hgr r (List.mem_filter.mp (hflk ▸ hr)).1
          refine Halt.out ?_
          refine' xlist_cut (σ := List Nat × Tok × Bool × Bool) (Str.ofString "ending") (fun _ => (a9, listOf (v0 :: vr).toArray n9) :: news) (fun c => [(Str.ofString "continuing", .bool c.2.2.2), (Str.ofString "is_intact", .bool c.2.2.1), (Str.ofString "stem", .str (S c.1) c.2.1)]) [Str.ofString "intact", Str.ofString "num", Str.ofString "append", Str.ofString "cont", Str.ofString "newlen"]
            (fun i c => c = (st, ts, bi, false) ∧ (flk.take i).filter (fitsB st bi) = []) (fun c => ∃ r rest, flk.filter (fitsB st bi) = r :: rest ∧ c.1 = st.take (st.length - r.gone) ++ r.given ∧ c.2.2.1 = false ∧ c.2.2.2 = r.onward) (st, ts, bi, false) rfl (.head _) hF hN5 ?kk ⟨rfl, rfl⟩ ?turn ?brk ?done ?pass
          case kk => kst_all
          case pass => with_unfolding_all passes_own
          case brk =>
            clear hF hN5
            rintro ⟨st2, ts2, bi2, bc2⟩ u h tk ⟨r, rest, hf, h1, h2, h3⟩ F' N'
            dsimp only at h1 h2 h3 F' N' ⊢
            subst h1 h2 h3
            have hf2 := hsame.symm.trans hf
            have hr1 : r ∈ rs.filter (fitsB st bi) := by rw [hf2]; exact .head _
            obtain ⟨hr2, hr3⟩ := List.mem_filter.mp hr1
            obtain ⟨e3, g1, ge, n2, on⟩ := hgr r hr2
            have hlong := fits_long hr3
            have hcs2 : (r.onward = true ∧ ∃ k, stemmed rs k (st.take (st.length - r.gone) ++ r.given) false = some y) ∨ (r.onward = false ∧ y = st.take (st.length - r.gone) ++ r.given) := by
              rcases hcs with ⟨e, _⟩ | ⟨r2, rest2, e, h⟩
              · rw [hf2] at e; cases e
              · rw [hf2] at e
                cases e
                exact h
            repeat' (first | (k_unfold; (try dsimp only)) | ((fail_if_success (with_reducible show Mine.Halt _)); k_end; wrow_close) | walk1 | (dsimp only; walk1) | (leave1; walk_say "STEP leave1"; try dsimp only) | fail "no step")
            refine Halt.out (ksw_end (st.take (st.length - r.gone) ++ r.given, ts2, false, r.onward) (by assumption) (by assumption) (fun p hp => .tail _ hp) trivial (by kst_all) (by first | (intro z h2 h3; (try dsimp only [kstB]); (repeat (refine Eq.trans (if_neg (by (first | exact h1 | exact Mine.off_stored h3 (by decide +kernel) | ((fail_if_success (exact Mine.not_stored h3)); exact Mine.sub_stored h3 (by decide +kernel)) | exact h2 _ (.head _) | exact h2 _ (.tail _ (.head _)) | exact h2 _ (.tail _ (.tail _ (.head _))) | exact h2 _ (.tail _ (.tail _ (.tail _ (.head _))))))) ?_)); first | exact if_neg (Mine.not_stored h3) | exact rfl) | (intro z h2 h3; (try simp only [List.forall_mem_cons, List.not_mem_nil, false_implies, implies_true, and_true, ne_eq] at h2); (try simp only [List.contains_cons, List.contains_nil, Bool.or_false, Bool.or_eq_false_iff, beq_eq_false_iff_ne, ne_eq] at h3); simp [kstB, h2, h3])) ⟨?_, ?_⟩ ?_)
            · intro ho
              have ho : r.onward = true := ho
              have := on ho
              refine ⟨?_, ?_⟩
              · simp only [List.length_append, List.length_take]; omega
              · rcases hcs2 with ⟨_, h⟩ | ⟨h, _⟩
                · exact h
                · rw [ho] at h; cases h
            · intro ho
              have ho : r.onward = false := ho
              rcases hcs2 with ⟨h, _⟩ | ⟨_, h⟩
              · rw [ho] at h; cases h
              · exact h.symm
            · show (if r.onward = true then (st.take (st.length - r.gone) ++ r.given).length + 1 else 0) < st.length + 1
              split
              · rename_i ho
                have := on ho
                simp only [List.length_append, List.length_take]; omega
              · omega
          case done =>
            clear hF hN5
            intro c9 u h tk hJ9 F' N'
            have hf := hJ9.2
            obtain rfl : c9 = (st, ts, bi, false) := hJ9.1
            clear hJ9
            dsimp only at hf F' N' ⊢
            rw [← Paired.length hR, List.take_length] at hf
            have hys : st = y := by
              rcases hcs with ⟨_, e⟩ | ⟨r, rest, e, _⟩
              · exact e.symm
              · rw [← hsame, hf] at e; cases e
            repeat' (first | (k_unfold; (try dsimp only)) | ((fail_if_success (with_reducible show Mine.Halt _)); k_end; wrow_close) | walk1 | (dsimp only; walk1) | (leave1; walk_say "STEP leave1"; try dsimp only) | fail "no step")
            refine Halt.out (ksw_end (st, ts, bi, false) (by assumption) (by assumption) (fun p hp => .tail _ hp) trivial (by kst_all) (by first | (intro z h2 h3; (try dsimp only [kstB]); (repeat (refine Eq.trans (if_neg (by (first | exact h1 | exact Mine.off_stored h3 (by decide +kernel) | ((fail_if_success (exact Mine.not_stored h3)); exact Mine.sub_stored h3 (by decide +kernel)) | exact h2 _ (.head _) | exact h2 _ (.tail _ (.head _)) | exact h2 _ (.tail _ (.tail _ (.head _))) | exact h2 _ (.tail _ (.tail _ (.tail _ (.head _))))))) ?_)); first | exact if_neg (Mine.not_stored h3) | exact rfl) | (intro z h2 h3; (try simp only [List.forall_mem_cons, List.not_mem_nil, false_implies, implies_true, and_true, ne_eq] at h2); (try simp only [List.contains_cons, List.contains_nil, Bool.or_false, Bool.or_eq_false_iff, beq_eq_false_iff_ne, ne_eq] at h3); simp [kstB, h2, h3])) ⟨fun h => Bool.noConfusion h, fun _ => hys⟩ (by show 0 < st.length + 1; omega))
          case turn =>
            clear hF hN5
            intro i v c9 u h tk own I hi hv hJ9 hoff F' N'
            have hf : (flk.take i).filter (fitsB st bi) = [] := hJ9.2
            obtain rfl : c9 = (st, ts, bi, false) := hJ9.1
            clear hJ9
            dsimp only at F' N' ⊢
            try k_fold
            obtain ⟨r, ra, t1, t2, t3, hr, rfl, hm⟩ := hR.at hv
            obtain ⟨e3, g1, ge, n2, on⟩ := hflg r (List.mem_of_getElem? hr)
            replace N' := news_dup N' hm (by intro p hp; (try simp only [List.mem_append, List.mem_cons, List.not_mem_nil, or_false, or_assoc] at hp); first | (simp [hp]; done) | (with_reducible refine Or.elim hp (fun hp => ?_) (fun hp => ?_) <;> (first | (simp [hp]; done) | (with_reducible refine Or.elim hp (fun hp => ?_) (fun hp => ?_) <;> (first | (simp [hp]; done) | (with_reducible refine Or.elim hp (fun hp => ?_) (fun hp => ?_) <;> (first | (simp [hp]; done) | (with_reducible refine Or.elim hp (fun hp => ?_) (fun hp => ?_) <;> ((simp [hp]; done))))))))))
            have hft := fits_take (l := st) (b := bi) hr
            rw [hf, List.nil_append] at hft
            have hlst := least_of (by assumption)
            dsimp only [tupObj] at N'
            have him : IfMark := .mk
            have hno : fitsB st bi r = false → (flk.take (i + 1)).filter (fitsB st bi) = [] := fun hfit => by
              rw [hfit, if_neg Bool.noConfusion] at hft
              exact hft
            repeat' (first | (k_unfold; (try dsimp only)) | ((fail_if_success (with_reducible show Mine.Halt _)); k_end; wrow_close) | walk1 | (dsimp only; walk1) | (leave1; walk_say "STEP leave1"; try dsimp only) | fail "no step")
            (with_reducible rename Fr _ _ _ _ => hF)
            (with_reducible rename News _ _ _ _ => hN)
            refine Halt.out ?_
            refine If_bool (r.ending.isSuffixOf st) hF hN ?_ ?_ ?_
            · repeat' (first | (k_unfold; (try dsimp only)) | ((fail_if_success (with_reducible show Mine.Halt _)); k_end; wrow_close) | walk1 | (dsimp only; walk1) | (leave1; walk_say "STEP leave1"; try dsimp only) | fail "no step")
              all_goals (
                (try dsimp only)
                refine Halt.out (test_is (by assumption) (by assumption) ?_)
                (first | exact (by assumption : _ = true).symm | exact (by assumption : _ = false).symm | rfl | simp [*]))
            · intro hc0 h9 tk9 F9 N9
              have hsl0 := suffix_len hc0
              clear hF hN
              repeat' (first | (k_unfold; (try dsimp only)) | ((fail_if_success (with_reducible show Mine.Halt _)); k_end; wrow_close) | walk1 | (dsimp only; walk1) | (leave1; walk_say "STEP leave1"; try dsimp only) | fail "no step")
              (with_reducible rename Fr _ _ _ _ => hF)
              (with_reducible rename News _ _ _ _ => hN)
              refine Halt.out ?_
              refine If_bool (r.whole && !bi) hF hN ?_ ?_ ?_
              · repeat' (first | (k_unfold; (try dsimp only)) | ((fail_if_success (with_reducible show Mine.Halt _)); k_end; wrow_close) | walk1 | (dsimp only; walk1) | (leave1; walk_say "STEP leave1"; try dsimp only) | fail "no step")
                all_goals (
                  (try dsimp only)
                  refine Halt.out (test_is (by assumption) (by assumption) ?_)
                  (simp [*]))
              · intro hc1 h9 tk9 F9 N9
                clear hF hN
                repeat' (first | (k_unfold; (try dsimp only)) | ((fail_if_success (with_reducible show Mine.Halt _)); k_end; wrow_close) | walk1 | (dsimp only; walk1) | (leave1; walk_say "STEP leave1"; try dsimp only) | fail "no step")
                have hfit : fitsB st bi r = false := by
                  have hc1' : r.whole = true ∧ bi = false := by simpa using hc1
                  unfold fitsB
                  rw [hc1'.1, hc1'.2]
                  simp
                exact Halt.out (lc_end (st, ts, bi, false) (by assumption) (by assumption) (by intro p hp; (try simp only [List.mem_append, List.mem_cons, List.not_mem_nil, or_false, or_assoc] at hp); first | (simp [hp]; done) | (with_reducible refine Or.elim hp (fun hp => ?_) (fun hp => ?_) <;> (first | (simp [hp]; done) | (with_reducible refine Or.elim hp (fun hp => ?_) (fun hp => ?_) <;> (first | (simp [hp]; done) | (with_reducible refine Or.elim hp (fun hp => ?_) (fun hp => ?_) <;> (first | (simp [hp]; done) | (with_reducible refine Or.elim hp (fun hp => ?_) (fun hp => ?_) <;> ((simp [hp]; done)))))))))) (by intro p hp; (try simp only [List.mem_append, List.mem_cons, List.not_mem_nil, or_false, or_assoc] at hp); first | (simp [hp]; done) | (with_reducible refine Or.elim hp (fun hp => ?_) (fun hp => ?_) <;> (first | (simp [hp]; done) | (with_reducible refine Or.elim hp (fun hp => ?_) (fun hp => ?_) <;> (first | (simp [hp]; done) | (with_reducible refine Or.elim hp (fun hp => ?_) (fun hp => ?_) <;> (first | (simp [hp]; done) | (with_reducible refine Or.elim hp (fun hp => ?_) (fun hp => ?_) <;> ((simp [hp]; done)))))))))) (fun p hp hm => hoff p hp (List.mem_singleton.mp hm)) (by kst_all) (by first | (intro z h1 h2 h3; (try dsimp only [kstB]); (repeat (refine Eq.trans (if_neg (by (first | exact h1 | exact Mine.off_stored h3 (by decide +kernel) | ((fail_if_success (exact Mine.not_stored h3)); exact Mine.sub_stored h3 (by decide +kernel)) | exact h2 _ (.head _) | exact h2 _ (.tail _ (.head _)) | exact h2 _ (.tail _ (.tail _ (.head _))) | exact h2 _ (.tail _ (.tail _ (.tail _ (.head _))))))) ?_)); first | exact if_neg (Mine.not_stored h3) | exact rfl) | (intro z h1 h2 h3; (try simp only [List.forall_mem_cons, List.not_mem_nil, false_implies, implies_true, and_true, ne_eq] at h2); (try simp only [List.contains_cons, List.contains_nil, Bool.or_false, Bool.or_eq_false_iff, beq_eq_false_iff_ne, ne_eq] at h3); simp [kstB, h1, h2, h3])) ⟨rfl, hno hfit⟩)
              · intro hc1 h9 tk9 F9 N9
                clear hF hN
                repeat' (first | (k_unfold; (try dsimp only)) | ((fail_if_success (with_reducible show Mine.Halt _)); k_end; wrow_close) | walk1 | (dsimp only; walk1) | (leave1; walk_say "STEP leave1"; try dsimp only) | fail "no step")
                (with_reducible rename Fr _ _ _ _ => hF)
                (with_reducible rename News _ _ _ _ => hN)
                refine Halt.out ?_
                refine If_bool (decide ((st.length : Int) - (r.gone : Int) + (r.given.length : Nat) < ((least st : Nat) : Int))) hF hN ?_ ?_ ?_
                · repeat' (first | (k_unfold; (try dsimp only)) | ((fail_if_success (with_reducible show Mine.Halt _)); k_end; wrow_close) | walk1 | (dsimp only; walk1) | (leave1; walk_say "STEP leave1"; try dsimp only) | fail "no step")
                  all_goals (
                    (try dsimp only)
                    refine Halt.out (test_is (by assumption) (by assumption) ?_)
                    (rw [hlst]; first | (refine (decide_eq_true ?_).symm; split <;> omega) | (refine (decide_eq_false ?_).symm; split <;> omega)))
                · intro hc2 h9 tk9 F9 N9
                  clear hF hN
                  repeat' (first | (k_unfold; (try dsimp only)) | ((fail_if_success (with_reducible show Mine.Halt _)); k_end; wrow_close) | walk1 | (dsimp only; walk1) | (leave1; walk_say "STEP leave1"; try dsimp only) | fail "no step")
                  have hc2 := of_decide_eq_true hc2
                  have hfit : fitsB st bi r = false := by
                    unfold fitsB
                    rw [decide_eq_false (by omega), Bool.and_false]
                  exact Halt.out (lc_end (st, ts, bi, false) (by assumption) (by assumption) (by intro p hp; (try simp only [List.mem_append, List.mem_cons, List.not_mem_nil, or_false, or_assoc] at hp); first | (simp [hp]; done) | (with_reducible refine Or.elim hp (fun hp => ?_) (fun hp => ?_) <;> (first | (simp [hp]; done) | (with_reducible refine Or.elim hp (fun hp => ?_) (fun hp => ?_) <;> (first | (simp [hp]; done) | (with_reducible refine Or.elim hp (fun hp => ?_) (fun hp => ?_) <;> (first | (simp [hp]; done) | (with_reducible refine Or.elim hp (fun hp => ?_) (fun hp => ?_) <;> ((simp [hp]; done)))))))))) (by intro p hp; (try simp only [List.mem_append, List.mem_cons, List.not_mem_nil, or_false, or_assoc] at hp); first | (simp [hp]; done) | (with_reducible refine Or.elim hp (fun hp => ?_) (fun hp => ?_) <;> (first | (simp [hp]; done) | (with_reducible refine Or.elim hp (fun hp => ?_) (fun hp => ?_) <;> (first | (simp [hp]; done) | (with_reducible refine Or.elim hp (fun hp => ?_) (fun hp => ?_) <;> (first | (simp [hp]; done) | (with_reducible refine Or.elim hp (fun hp => ?_) (fun hp => ?_) <;> ((simp [hp]; done)))))))))) (fun p hp hm => hoff p hp (List.mem_singleton.mp hm)) (by kst_all) (by first | (intro z h1 h2 h3; (try dsimp only [kstB]); (repeat (refine Eq.trans (if_neg (by (first | exact h1 | exact Mine.off_stored h3 (by decide +kernel) | ((fail_if_success (exact Mine.not_stored h3)); exact Mine.sub_stored h3 (by decide +kernel)) | exact h2 _ (.head _) | exact h2 _ (.tail _ (.head _)) | exact h2 _ (.tail _ (.tail _ (.head _))) | exact h2 _ (.tail _ (.tail _ (.tail _ (.head _))))))) ?_)); first | exact if_neg (Mine.not_stored h3) | exact rfl) | (intro z h1 h2 h3; (try simp only [List.forall_mem_cons, List.not_mem_nil, false_implies, implies_true, and_true, ne_eq] at h2); (try simp only [List.contains_cons, List.contains_nil, Bool.or_false, Bool.or_eq_false_iff, beq_eq_false_iff_ne, ne_eq] at h3); simp [kstB, h1, h2, h3])) ⟨rfl, hno hfit⟩)
                · intro hc2 h9 tk9 F9 N9
                  clear hF hN
                  repeat' (first | (k_unfold; (try dsimp only)) | ((fail_if_success (with_reducible show Mine.Halt _)); k_end; wrow_close) | walk1 | (dsimp only; walk1) | (leave1; walk_say "STEP leave1"; try dsimp only) | fail "no step")
                  have hc2 := of_decide_eq_false hc2
                  have hfit : fitsB st bi r = true := by
                    unfold fitsB
                    rw [decide_eq_true (by omega), Bool.and_true, hc0, Bool.true_and]
                    exact whole_or _ _ hc1
                  rw [hfit, if_pos rfl] at hft
                  obtain ⟨rest, hrest⟩ := filter_hit hr hft
                  have e8 : st.take (st.length - (-(0 - (r.gone : Int))).toNat) = st.take (st.length - r.gone) := by congr 2; omega
                  refine Halt.out (lc_brk (_, _, false, r.onward) (by assumption) (by assumption) (by intro p hp; (try simp only [List.mem_append, List.mem_cons, List.not_mem_nil, or_false, or_assoc] at hp); first | (simp [hp]; done) | (with_reducible refine Or.elim hp (fun hp => ?_) (fun hp => ?_) <;> (first | (simp [hp]; done) | (with_reducible refine Or.elim hp (fun hp => ?_) (fun hp => ?_) <;> (first | (simp [hp]; done) | (with_reducible refine Or.elim hp (fun hp => ?_) (fun hp => ?_) <;> (first | (simp [hp]; done) | (with_reducible refine Or.elim hp (fun hp => ?_) (fun hp => ?_) <;> ((simp [hp]; done)))))))))) (by kst_all) (by first | (intro z h1 h2 h3; (try dsimp only [kstB]); (repeat (refine Eq.trans (if_neg (by (first | exact h1 | exact Mine.off_stored h3 (by decide +kernel) | ((fail_if_success (exact Mine.not_stored h3)); exact Mine.sub_stored h3 (by decide +kernel)) | exact h2 _ (.head _) | exact h2 _ (.tail _ (.head _)) | exact h2 _ (.tail _ (.tail _ (.head _))) | exact h2 _ (.tail _ (.tail _ (.tail _ (.head _))))))) ?_)); first | exact if_neg (Mine.not_stored h3) | exact rfl) | (intro z h1 h2 h3; (try simp only [List.forall_mem_cons, List.not_mem_nil, false_implies, implies_true, and_true, ne_eq] at h2); (try simp only [List.contains_cons, List.contains_nil, Bool.or_false, Bool.or_eq_false_iff, beq_eq_false_iff_ne, ne_eq] at h3); simp [kstB, h1, h2, h3])) ⟨r, rest, hrest, ?_, rfl, rfl⟩)
                  exact congrArg (· ++ r.given) e8
            · intro hc0 h9 tk9 F9 N9
              clear hF hN
              repeat' (first | (k_unfold; (try dsimp only)) | ((fail_if_success (with_reducible show Mine.Halt _)); k_end; wrow_close) | walk1 | (dsimp only; walk1) | (leave1; walk_say "STEP leave1"; try dsimp only) | fail "no step")
              have hfit : fitsB st bi r = false := by
                unfold fitsB
                rw [hc0, Bool.false_and, Bool.false_and]
              exact Halt.out (lc_end (st, ts, bi, false) (by assumption) (by assumption) (by intro p hp; (try simp only [List.mem_append, List.mem_cons, List.not_mem_nil, or_false, or_assoc] at hp); first | (simp [hp]; done) | (with_reducible refine Or.elim hp (fun hp => ?_) (fun hp => ?_) <;> (first | (simp [hp]; done) | (with_reducible refine Or.elim hp (fun hp => ?_) (fun hp => ?_) <;> (first | (simp [hp]; done) | (with_reducible refine Or.elim hp (fun hp => ?_) (fun hp => ?_) <;> (first | (simp [hp]; done) | (with_reducible refine Or.elim hp (fun hp => ?_) (fun hp => ?_) <;> ((simp [hp]; done)))))))))) (by intro p hp; (try simp only [List.mem_append, List.mem_cons, List.not_mem_nil, or_false, or_assoc] at hp); first | (simp [hp]; done) | (with_reducible refine Or.elim hp (fun hp => ?_) (fun hp => ?_) <;> (first | (simp [hp]; done) | (with_reducible refine Or.elim hp (fun hp => ?_) (fun hp => ?_) <;> (first | (simp [hp]; done) | (with_reducible refine Or.elim hp (fun hp => ?_) (fun hp => ?_) <;> (first | (simp [hp]; done) | (with_reducible refine Or.elim hp (fun hp => ?_) (fun hp => ?_) <;> ((simp [hp]; done)))))))))) (fun p hp hm => hoff p hp (List.mem_singleton.mp hm)) (by kst_all) (by first | (intro z h1 h2 h3; (try dsimp only [kstB]); (repeat (refine Eq.trans (if_neg (by (first | exact h1 | exact Mine.off_stored h3 (by decide +kernel) | ((fail_if_success (exact Mine.not_stored h3)); exact Mine.sub_stored h3 (by decide +kernel)) | exact h2 _ (.head _) | exact h2 _ (.tail _ (.head _)) | exact h2 _ (.tail _ (.tail _ (.head _))) | exact h2 _ (.tail _ (.tail _ (.tail _ (.head _))))))) ?_)); first | exact if_neg (Mine.not_stored h3) | exact rfl) | (intro z h1 h2 h3; (try simp only [List.forall_mem_cons, List.not_mem_nil, false_implies, implies_true, and_true, ne_eq] at h2); (try simp only [List.contains_cons, List.contains_nil, Bool.or_false, Bool.or_eq_false_iff, beq_eq_false_iff_ne, ne_eq] at h3); simp [kstB, h1, h2, h3])) ⟨rfl, hno hfit⟩)
end Mine

end
section
namespace Mine
/-! what a row of the table is read as -/
theorem run_app {f : Nat → Bool} {p a : List Nat} {c : Nat} {r : List Nat} (ha : ∀ x ∈ a, f x = true) (hc : f c = false) : run f (p ++ (a ++ c :: r)) p.length = p.length + a.length := by
  unfold run
  rw [List.drop_left]
  have : (a ++ c :: r).takeWhile f = a := by
    induction a with
    | nil => simp [List.takeWhile_cons, hc]
    | cons x b ih => simp [List.takeWhile_cons, ha x (.head _), ih fun y hy => ha y (.tail _ hy)]
  rw [this]
theorem run_full {f : Nat → Bool} {p a : List Nat} (ha : ∀ x ∈ a, f x = true) : run f (p ++ a) p.length = p.length + a.length := by
  unfold run
  rw [List.drop_left]
  have : a.takeWhile f = a := by
    induction a with
    | nil => rfl
    | cons x b ih => simp [List.takeWhile_cons, ha x (.head _), ih fun y hy => ha y (.tail _ hy)]
  rw [this]
theorem getD_app (p r : List Nat) (c : Nat) : (p ++ c :: r).getD p.length 0 = c := by
  simp [List.getD_eq_getElem?_getD]
theorem take_app (p r : List Nat) : (p ++ r).take p.length = p := by simp
theorem lower_W {l : List Nat} (h : lower l) : ∀ c ∈ l, isW c = true := fun c hc => by
  obtain ⟨h1, h2⟩ := h c hc
  simp [isW, h1, h2]
theorem lower_D {c : Nat} (h : 97 ≤ c ∧ c ≤ 122) : isD c = false := by
  unfold isD
  simp
  omega
theorem lastDig_hit {l : List Nat} {m : Nat} (h1 : 1 ≤ m) (hd : isD (l.getD m 0) = true) : ∀ j, (∀ i, i < j → isD (l.getD (m + 1 + i) 0) = false) → lastDig l (m + j) = m
  | 0, _ => by
    obtain ⟨q, rfl⟩ : ∃ q, m = q + 1 := ⟨m - 1, by omega⟩
    show lastDig l (q + 1) = q + 1
    rw [lastDig, if_pos hd]
  | j + 1, h => by
    show lastDig l (m + j + 1) = m
    rw [lastDig, if_neg]
    · exact lastDig_hit h1 hd j fun i hi => h i (by omega)
    · have := h j (by omega)
      rw [show m + j + 1 = m + 1 + j by omega, this]
      exact Bool.false_ne_true
theorem lastDig_none {l : List Nat} : ∀ j, (∀ i, 1 ≤ i → i ≤ j → isD (l.getD i 0) = false) → lastDig l j = 0
  | 0, _ => rfl
  | j + 1, h => by
    rw [lastDig, if_neg]
    · exact lastDig_none j fun i h1 h2 => h i h1 (by omega)
    · rw [h (j + 1) (by omega) (Nat.le_refl _)]
      exact Bool.false_ne_true
theorem getD_mid (p a r : List Nat) {i : Nat} (h : i < a.length) : (p ++ (a ++ r)).getD (p.length + i) 0 = a.getD i 0 := by
  simp [List.getD_eq_getElem?_getD, List.getElem?_append_right, List.getElem?_append_left h]
theorem getD_mem {a : List Nat} {i : Nat} (h : i < a.length) : a.getD i 0 ∈ a := by
  rw [List.getD_eq_getElem?_getD, List.getElem?_eq_getElem h]
  exact List.getElem_mem h
/-- a rule as its row is read: the ending backward -/
noncomputable def back (r : Rule) : Rule := { r with ending := r.ending.reverse }
theorem turned_back (r : Rule) : turned (back r) = r := by
  unfold turned back
  simp
structure RowOk (r : Rule) : Prop extends GoodRule r where
  le : lower r.ending
  lg : lower r.given
  ne : r.ending ≠ []
theorem lower_rev {l : List Nat} (h : lower l) : lower l.reverse := fun c hc => h c (List.mem_reverse.mp hc)
noncomputable def stop (r : Rule) : Nat := if r.onward then 62 else 46
theorem stop_or (r : Rule) : stop r = 62 ∨ stop r = 46 := by unfold stop; split <;> simp
theorem stop_W (r : Rule) : isW (stop r) = false := by rcases stop_or r with h | h <;> rw [h] <;> decide
theorem stop_on (r : Rule) : decide (stop r = 62) = r.onward := by
  unfold stop
  cases r.onward <;> decide
theorem ruleText_eq (r : Rule) : ruleText r = r.ending.reverse ++ ((if r.whole then [42] else []) ++ (48 + r.gone) :: (r.given ++ [stop r])) := by
  unfold ruleText stop
  cases r.onward <;> simp
theorem dig_gone {r : Rule} (h : RowOk r) : isD (48 + r.gone) = true := by
  have := h.e3; have := h.g1; have := h.ge
  unfold isD
  simp
  omega
theorem dig_W {c : Nat} (h : isD c = true) : isW c = true := by
  unfold isD at h
  simp at h
  simp [isW, h]
theorem next_D (r : Rule) (h : RowOk r) (tail : List Nat) : ∃ c q, r.given ++ stop r :: tail = c :: q ∧ isD c = false := by
  cases hg : r.given with
  | nil =>
    refine ⟨_, _, rfl, ?_⟩
    rcases stop_or r with h | h <;> rw [h] <;> decide
  | cons a b => exact ⟨a, _, rfl, lower_D (h.lg a (by rw [hg]; exact .head _))⟩
theorem read_row {r : Rule} (h : RowOk r) (tail : List Nat) : readRule (ruleText r ++ tail) = some (back r) := by
  have hd := dig_gone h
  have he := lower_rev h.le
  have hel : 0 < r.ending.reverse.length := by rw [List.length_reverse]; exact List.length_pos_iff.mpr h.ne
  obtain ⟨c, q, hcq, hcD⟩ := next_D r h tail
  rw [ruleText_eq]
  generalize hE : r.ending.reverse = e at *
  cases hw : r.whole with
  | true =>
    have hL : e ++ ((if true = true then [42] else []) ++ (48 + r.gone) :: (r.given ++ [stop r])) ++ tail = e ++ 42 :: (48 + r.gone) :: (r.given ++ stop r :: tail) := by simp
    rw [hL]
    have hk : wordRun (e ++ 42 :: (48 + r.gone) :: (r.given ++ stop r :: tail)) 0 = e.length := by
      have := run_app (f := isW) (p := []) (a := e) (c := 42) (r := (48 + r.gone) :: (r.given ++ stop r :: tail)) (lower_W he) (by decide)
      simpa using this
    have h42 := getD_app e ((48 + r.gone) :: (r.given ++ stop r :: tail)) 42
    have hj : digRun (e ++ 42 :: (48 + r.gone) :: (r.given ++ stop r :: tail)) (e.length + 1) = e.length + 2 := by
      have := run_app (f := isD) (p := e ++ [42]) (a := [48 + r.gone]) (c := c) (r := q) (by simpa using hd) hcD
      rw [← hcq] at this
      simpa using this
    have hr : wordRun (e ++ 42 :: (48 + r.gone) :: (r.given ++ stop r :: tail)) (e.length + 2) = e.length + 2 + r.given.length := by
      have := run_app (f := isW) (p := e ++ [42, 48 + r.gone]) (a := r.given) (c := stop r) (r := tail) (lower_W h.lg) (stop_W r)
      simpa using this
    have hs : (e ++ 42 :: (48 + r.gone) :: (r.given ++ stop r :: tail)).getD (e.length + 2 + r.given.length) 0 = stop r := by
      have := getD_app (e ++ 42 :: (48 + r.gone) :: r.given) tail (stop r)
      simpa [Nat.add_assoc, Nat.add_comm, Nat.add_left_comm] using this
    have hg : (e ++ 42 :: (48 + r.gone) :: (r.given ++ stop r :: tail)).getD (e.length + 1) 0 = 48 + r.gone := by
      have := getD_app (e ++ [42]) (r.given ++ stop r :: tail) (48 + r.gone)
      simpa using this
    rw [readRule_star (j := e.length + 2) (r := e.length + 2 + r.given.length) (by rw [hk]; exact hel) (by rw [hk]; simp) (by rw [hk]; exact h42) (by rw [hk]; exact hj) hr, if_pos ⟨by rw [hk]; omega, by simp; omega, by rw [hs]; exact (stop_or r).symm⟩]
    rw [hk, hs, hg, stop_on]
    congr 1
    unfold back
    rw [hE, hw]
    congr 1
    · simp
    · omega
    · have : (e ++ 42 :: (48 + r.gone) :: (r.given ++ stop r :: tail)).drop (e.length + 2) = r.given ++ stop r :: tail := by
        have := List.drop_left (l₁ := e ++ [42, 48 + r.gone]) (l₂ := r.given ++ stop r :: tail)
        simpa using this
      rw [this]
      simp
  | false =>
    have hL : e ++ ((if false = true then [42] else []) ++ (48 + r.gone) :: (r.given ++ [stop r])) ++ tail = e ++ (48 + r.gone) :: (r.given ++ stop r :: tail) := by simp
    rw [hL]
    have hk : wordRun (e ++ (48 + r.gone) :: (r.given ++ stop r :: tail)) 0 = e.length + 1 + r.given.length := by
      have := run_app (f := isW) (p := []) (a := e ++ (48 + r.gone) :: r.given) (c := stop r) (r := tail) (by
        intro x hx
        rcases List.mem_append.mp hx with hx | hx
        · exact lower_W he x hx
        rcases List.mem_cons.mp hx with rfl | hx
        · exact dig_W hd
        · exact lower_W h.lg x hx) (stop_W r)
      simp at this
      show run isW _ 0 = _
      rw [this]
      omega
    have hs : (e ++ (48 + r.gone) :: (r.given ++ stop r :: tail)).getD (e.length + 1 + r.given.length) 0 = stop r := by
      have := getD_app (e ++ (48 + r.gone) :: r.given) tail (stop r)
      simpa [Nat.add_assoc, Nat.add_comm, Nat.add_left_comm] using this
    have hg : (e ++ (48 + r.gone) :: (r.given ++ stop r :: tail)).getD e.length 0 = 48 + r.gone := getD_app _ _ _
    have hp : lastDigI (e ++ (48 + r.gone) :: (r.given ++ stop r :: tail)) (wordRun (e ++ (48 + r.gone) :: (r.given ++ stop r :: tail)) 0 - 1) = (e.length : Nat) := by
      rw [hk]
      unfold lastDigI
      rw [if_neg (by omega)]
      have e1 : (((e.length + 1 + r.given.length : Nat) : Int) - 1).toNat = e.length + r.given.length := by omega
      rw [e1, lastDig_hit hel (by rw [hg]; exact hd)]
      intro i hi
      have := getD_mid (e ++ [48 + r.gone]) r.given (stop r :: tail) hi
      have e2 : (e ++ (48 + r.gone) :: (r.given ++ stop r :: tail)).getD (e.length + 1 + i) 0 = r.given.getD i 0 := by simpa using this
      rw [e2]
      exact lower_D (h.lg _ (getD_mem hi))
    have hns : ¬ (0 < wordRun (e ++ (48 + r.gone) :: (r.given ++ stop r :: tail)) 0 ∧ wordRun (e ++ (48 + r.gone) :: (r.given ++ stop r :: tail)) 0 < (e ++ (48 + r.gone) :: (r.given ++ stop r :: tail)).length ∧ (e ++ (48 + r.gone) :: (r.given ++ stop r :: tail)).getD (wordRun (e ++ (48 + r.gone) :: (r.given ++ stop r :: tail)) 0) 0 = 42) := by
      rintro ⟨_, _, h3⟩
      rw [hk, hs] at h3
      rcases stop_or r with h4 | h4 <;> rw [h4] at h3 <;> cases h3
    rw [readRule_plain hns hp, if_pos ⟨by omega, by rw [hk]; simp; omega, by rw [hk, hs]; exact (stop_or r).symm⟩]
    rw [hk, hs, stop_on, Int.toNat_natCast, hg]
    congr 1
    unfold back
    rw [hE, hw]
    congr 1
    · simp
    · omega
    · have : (e ++ (48 + r.gone) :: (r.given ++ stop r :: tail)).drop (e.length + 1) = r.given ++ stop r :: tail := by
        have := List.drop_left (l₁ := e ++ [48 + r.gone]) (l₂ := r.given ++ stop r :: tail)
        simpa using this
      rw [this, show e.length + 1 + r.given.length - (e.length + 1) = r.given.length by omega]
      simp
end Mine

end
section
namespace Mine
theorem letters_lower : ∀ c ∈ letters, 97 ≤ c ∧ c ≤ 122 := by decide
theorem letter_in {i : Nat} (h : i < 26) : letters.getD i 0 ∈ letters := getD_mem (by exact h)
theorem spell_lower {n : Int} {k : Nat} : lower (spell n k) := by
  intro c hc
  unfold spell at hc
  obtain ⟨i, _, rfl⟩ := List.mem_map.mp hc
  have h1 : 0 ≤ n / 26 ^ i % 26 := Int.emod_nonneg _ (by decide)
  have h2 : n / 26 ^ i % 26 < 26 := Int.emod_lt_of_pos _ (by decide)
  exact letters_lower _ (letter_in (by omega))
theorem sz_ok {x : Int} (h : 0 ≤ x) (h2 : x < 3) : 1 ≤ (x + 1).toNat ∧ (x + 1).toNat ≤ 3 := by omega
theorem gd_ok {g : Int} {sz : Nat} (h : 0 ≤ g) (h2 : g < sz) (h3 : sz ≤ 3) : 0 < g + 1 ∧ g + 1 ≤ 3 := by omega
theorem g1_ok {g : Int} (h : 0 ≤ g) : 1 ≤ (g + 1).toNat := by omega
theorem ge_ok {g : Int} {sz : Nat} (h2 : g < sz) : (g + 1).toNat ≤ sz := Int.toNat_le.mpr h2
theorem n2_ok {y d : Int} (h : y < d) (h2 : d ≤ 3) : y.toNat ≤ 2 := by omega
theorem on_ok {y d : Int} (h0 : 0 ≤ y) (h : y < d) : y.toNat < d.toNat := by omega
theorem order_ok (n : Int) : RowOk (order n) := by
  have ha : 0 ≤ (n.natAbs : Int) := by omega
  generalize hA : (n.natAbs : Int) = a at ha
  have hs1 : 0 ≤ a / 4 % 3 := Int.emod_nonneg _ (by decide)
  have hs2 : a / 4 % 3 < 3 := Int.emod_lt_of_pos _ (by decide)
  generalize hS : (a / 4 % 3 + 1).toNat = sz
  have hsz : 1 ≤ sz ∧ sz ≤ 3 := by rw [← hS]; exact sz_ok hs1 hs2
  have hq : 0 ≤ a / 4 / 3 := Int.ediv_nonneg (Int.ediv_nonneg ha (by decide)) (by decide)
  generalize hQ : a / 4 / 3 = q at hq
  have hn3 : 0 ≤ spellRest q sz := spellRest_nn hq sz
  generalize hN : spellRest q sz = n3 at hn3
  have hlen : (spell q sz).length = sz := spell_length _ _
  have hg1 : 0 ≤ n3 % (sz : Int) := Int.emod_nonneg _ (by omega)
  have hg2 : n3 % (sz : Int) < sz := Int.emod_lt_of_pos _ (by omega)
  have hq4 : 0 ≤ n3 / (sz : Int) := Int.ediv_nonneg hn3 (by omega)
  have e : order n = ⟨spell q sz, decide (a % 4 % 2 = 1), (n3 % (sz : Int) + 1).toNat, spell (n3 / (sz : Int) / (if a % 4 < 2 then n3 % (sz : Int) + 1 else 3)) (n3 / (sz : Int) % (if a % 4 < 2 then n3 % (sz : Int) + 1 else 3)).toNat, decide (a % 4 < 2)⟩ := by
    unfold order
    dsimp only
    rw [hA, hS, hQ, hN, hlen]
  have hd : 0 < (if a % 4 < 2 then n3 % (sz : Int) + 1 else 3) ∧ (if a % 4 < 2 then n3 % (sz : Int) + 1 else 3) ≤ 3 := by
    split
    · exact gd_ok hg1 hg2 hsz.2
    · decide
  have hgl1 := Int.emod_nonneg (n3 / (sz : Int)) (b := if a % 4 < 2 then n3 % (sz : Int) + 1 else 3) (Int.ne_of_gt hd.1)
  have hgl2 := Int.emod_lt_of_pos (n3 / (sz : Int)) hd.1
  rw [e]
  refine { e3 := ?_, g1 := ?_, ge := ?_, n2 := ?_, on := ?_, le := spell_lower, lg := spell_lower, ne := ?_ }
  · show (spell q sz).length ≤ 3
    rw [hlen]
    exact hsz.2
  · exact g1_ok hg1
  · show (n3 % (sz : Int) + 1).toNat ≤ (spell q sz).length
    rw [hlen]
    exact ge_ok hg2
  · show (spell _ _).length ≤ 2
    rw [spell_length]
    exact n2_ok hgl2 hd.2
  · intro ho
    have ho : decide (a % 4 < 2) = true := ho
    rw [decide_eq_true_eq] at ho
    show (spell _ _).length < (n3 % (sz : Int) + 1).toNat
    rw [spell_length]
    rw [if_pos ho] at hgl1 hgl2 ⊢
    exact on_ok hgl1 hgl2
  · intro e0
    have : (spell q sz).length = 0 := by
      have e0 : spell q sz = [] := e0
      rw [e0]
      rfl
    omega
/-! blanks -/
theorem no_blank : ∀ c, (97 ≤ c ∧ c ≤ 122) ∨ c = 42 ∨ (48 ≤ c ∧ c ≤ 57) ∨ c = 46 ∨ c = 62 ∨ c = 125 → blank c = false := by
  have h : ∀ c : Fin 128, (97 ≤ c.val ∧ c.val ≤ 122) ∨ c.val = 42 ∨ (48 ≤ c.val ∧ c.val ≤ 57) ∨ c.val = 46 ∨ c.val = 62 ∨ c.val = 125 → Unicode.isSpace c.val = false := by decide +kernel
  intro c hc
  exact h ⟨c, by omega⟩ hc
theorem blank_32 : blank 32 = true := by decide +kernel
theorem blank_10 : blank 10 = true := by decide +kernel
theorem strip_core {pre x : List Nat} {a z : Nat} (hpre : ∀ c ∈ pre, blank c = true) (ha : blank a = false) (hz : blank z = false) (hx : x.head? = some a) (hl : x.getLast? = some z) : stripL blank (pre ++ x) = x := by
  unfold stripL
  have e1 : (pre ++ x).dropWhile blank = x := by
    induction pre with
    | nil =>
      cases x with
      | nil => cases hx
      | cons b r =>
        simp at hx
        subst hx
        show List.dropWhile blank (b :: r) = b :: r
        rw [List.dropWhile_cons, if_neg (by rw [ha]; exact Bool.false_ne_true)]
    | cons b r ih =>
      show List.dropWhile blank (b :: (r ++ x)) = x
      rw [List.dropWhile_cons, if_pos (hpre b (.head _))]
      exact ih fun c hc => hpre c (.tail _ hc)
  rw [e1]
  have e2 : x.reverse.dropWhile blank = x.reverse := by
    cases hr : x.reverse with
    | nil => rfl
    | cons b r =>
      have hb : x.reverse.head? = some z := by rw [List.head?_reverse]; exact hl
      rw [hr] at hb
      simp at hb
      subst hb
      rw [List.dropWhile_cons, if_neg (by rw [hz]; exact Bool.false_ne_true)]
  rw [e2, List.reverse_reverse]
theorem strip_blank {x : List Nat} (h : ∀ c ∈ x, blank c = true) : stripL blank x = [] := by
  unfold stripL
  have : x.dropWhile blank = [] := by
    induction x with
    | nil => rfl
    | cons a r ih => rw [List.dropWhile_cons, if_pos (h a (.head _))]; exact ih fun c hc => h c (.tail _ hc)
  rw [this]
  rfl
theorem text_head {r : Rule} (h : RowOk r) : ∃ a, (ruleText r).head? = some a ∧ (97 ≤ a ∧ a ≤ 122) := by
  rw [ruleText_eq]
  have hne : r.ending.reverse ≠ [] := by simpa using h.ne
  cases he : r.ending.reverse with
  | nil => exact absurd he hne
  | cons a q => exact ⟨a, rfl, lower_rev h.le a (by rw [he]; exact .head _)⟩
theorem text_last (r : Rule) : (ruleText r).getLast? = some (stop r) := by
  rw [ruleText_eq]
  have : r.ending.reverse ++ ((if r.whole = true then [42] else []) ++ (48 + r.gone) :: (r.given ++ [stop r])) = (r.ending.reverse ++ ((if r.whole = true then [42] else []) ++ (48 + r.gone) :: r.given)) ++ [stop r] := by simp
  rw [this, List.getLast?_concat]
theorem stop_blank (r : Rule) : blank (stop r) = false := no_blank _ (by rcases stop_or r with h | h <;> rw [h] <;> simp)
theorem strip_text {r : Rule} (h : RowOk r) : stripL blank (ruleText r) = ruleText r := by
  obtain ⟨a, h1, h2⟩ := text_head h
  exact strip_core (pre := []) (by simp) (no_blank a (.inl h2)) (stop_blank r) h1 (text_last r)
/-- the remark behind a row -/
noncomputable def remark (r : Rule) : List Nat := [32, 32, 32, 32, 123, 32, 45] ++ r.ending ++ [32, 62, 32, 45] ++ r.given ++ [32, 125]
theorem strip_remark {r : Rule} (h : RowOk r) : stripL blank ([32, 32, 32] ++ ruleText r ++ remark r) = ruleText r ++ remark r := by
  obtain ⟨a, h1, h2⟩ := text_head h
  rw [List.append_assoc]
  refine strip_core (a := a) (z := 125) (by intro c hc; simp at hc; subst hc; exact blank_32) (no_blank a (.inl h2)) (no_blank 125 (by simp)) ?_ ?_
  · rw [List.head?_append, h1]; rfl
  · unfold remark
    have : ruleText r ++ ([32, 32, 32, 32, 123, 32, 45] ++ r.ending ++ [32, 62, 32, 45] ++ r.given ++ [32, 125]) = (ruleText r ++ ([32, 32, 32, 32, 123, 32, 45] ++ r.ending ++ [32, 62, 32, 45] ++ r.given ++ [32])) ++ [125] := by simp
    rw [this, List.getLast?_concat]
/-- the lines of a row in its dress -/
noncomputable def rowLines (r : Rule) (d : Int) : List (List Nat) := if d = 1 then [[32, 32, 32] ++ ruleText r ++ remark r] else if d = 2 then [ruleText r, [32, 32]] else [ruleText r]
theorem written_lines (r : Rule) (d : Int) : written r d = joinC 10 (rowLines r d) := by
  unfold written rowLines remark
  split
  · simp [joinC]
  · split
    · simp [joinC]
    · rfl
theorem table_row {r : Rule} (h : RowOk r) (d : Int) (rest : List (List Nat)) : tableOf (rowLines r d ++ rest) = (tableOf rest).map (r :: ·) := by
  have hne : ruleText r ≠ [] := by
    obtain ⟨a, h1, _⟩ := text_head h
    intro e
    rw [e] at h1
    cases h1
  have h0 := read_row h []
  rw [List.append_nil] at h0
  unfold rowLines
  split
  · show tableOf (_ :: rest) = _
    rw [tableOf, strip_remark h, if_neg (by simp [hne]), read_row h]
    simp only [turned_back]
  · split
    · show tableOf (_ :: [32, 32] :: rest) = _
      rw [tableOf, strip_text h, if_neg hne, h0, tableOf, strip_blank (by intro c hc; simp at hc; subst hc; exact blank_32), if_pos rfl]
      simp only [turned_back]
    · show tableOf (_ :: rest) = _
      rw [tableOf, strip_text h, if_neg hne, h0]
      simp only [turned_back]
theorem table_none {x : List Nat} (h1 : stripL blank x ≠ []) (h2 : readRule (stripL blank x) = none) : ∀ A : List (List Nat), tableOf (A ++ [x]) = none
  | [] => by
    show tableOf [x] = none
    rw [tableOf, if_neg h1, h2]
  | a :: r => by
    show tableOf (a :: (r ++ [x])) = none
    rw [tableOf]
    have ih := table_none h1 h2 r
    split
    · exact ih
    · cases readRule (stripL blank a) with
      | none => rfl
      | some q => simp only [ih, Option.map_none]
end Mine

end
section
namespace Mine
theorem strip_clean {x : List Nat} (h : ∀ c ∈ x, blank c = false) : stripL blank x = x := by
  cases x with
  | nil => rfl
  | cons a r =>
    have hl : (a :: r).getLast? = some ((a :: r).getLast (by simp)) := List.getLast?_eq_some_getLast _
    exact strip_core (pre := []) (by simp) (h a (.head _)) (h _ (List.getLast_mem (by simp))) rfl hl
theorem lower_clean {l : List Nat} (h : lower l) : ∀ c ∈ l, blank c = false := fun c hc => no_blank c (.inl (h c hc))
theorem readRule_none {l : List Nat} {p : Int} (h : ¬ (0 < wordRun l 0 ∧ wordRun l 0 < l.length ∧ l.getD (wordRun l 0) 0 = 42)) (hp : lastDigI l (wordRun l 0 - 1) = p) (hp0 : p ≤ 0) : readRule l = none := by
  rw [readRule_plain h hp, if_neg (by rintro ⟨h1, _⟩; omega)]
/-- a row without its figure -/
noncomputable def bare1 (r : Rule) : List Nat := r.ending.reverse ++ ((if r.whole then [42] else []) ++ (r.given ++ [stop r]))
/-- a row without its last sign -/
noncomputable def bare2 (r : Rule) : List Nat := r.ending.reverse ++ ((if r.whole then [42] else []) ++ (48 + r.gone) :: r.given)
theorem filter_keep {p : Nat → Bool} {l : List Nat} (h : ∀ c ∈ l, p c = true) : l.filter p = l := List.filter_eq_self.mpr h
theorem bare1_eq {r : Rule} (h : RowOk r) : (ruleText r).filter (fun c => decide (c ∉ [49, 50, 51])) = bare1 r := by
  have hl : ∀ l, lower l → l.filter (fun c => decide (c ∉ [49, 50, 51])) = l := fun l hl => filter_keep fun c hc => by
    have := hl c hc
    simp
    omega
  have := h.e3; have := h.g1; have := h.ge
  have hg : r.gone = 1 ∨ r.gone = 2 ∨ r.gone = 3 := by omega
  rw [ruleText_eq, bare1, List.filter_append, List.filter_append, List.filter_cons, List.filter_append, hl _ (lower_rev h.le), hl _ h.lg]
  have e1 : (if r.whole = true then [42] else []).filter (fun c => decide (c ∉ [49, 50, 51])) = if r.whole = true then [42] else [] := by split <;> rfl
  have e2 : [stop r].filter (fun c => decide (c ∉ [49, 50, 51])) = [stop r] := by rcases stop_or r with h | h <;> rw [h] <;> rfl
  rw [e1, e2]
  have e3 : decide (48 + r.gone ∉ [49, 50, 51]) = false := by
    rcases hg with h | h | h <;> rw [h] <;> rfl
  simp only [e3, Bool.false_eq_true, if_false]
theorem bare2_eq (r : Rule) : (ruleText r).take ((ruleText r).length - 1) = bare2 r := by
  have e : ruleText r = bare2 r ++ [stop r] := by
    rw [ruleText_eq, bare2]
    simp
  rw [e, List.length_append, List.length_singleton, Nat.add_sub_cancel, List.take_left]
theorem bare1_clean {r : Rule} (h : RowOk r) : ∀ c ∈ bare1 r, blank c = false := by
  intro c hc
  unfold bare1 at hc
  rcases List.mem_append.mp hc with hc | hc
  · exact lower_clean (lower_rev h.le) c hc
  rcases List.mem_append.mp hc with hc | hc
  · split at hc
    · simp at hc; subst hc; exact no_blank 42 (by simp)
    · cases hc
  rcases List.mem_append.mp hc with hc | hc
  · exact lower_clean h.lg c hc
  · simp at hc; subst hc; exact stop_blank r
theorem gone_range {r : Rule} (h : RowOk r) : 49 ≤ 48 + r.gone ∧ 48 + r.gone ≤ 51 := by
  have := h.e3; have := h.g1; have := h.ge
  omega
theorem bare2_clean {r : Rule} (h : RowOk r) : ∀ c ∈ bare2 r, blank c = false := by
  intro c hc
  have := gone_range h
  unfold bare2 at hc
  rcases List.mem_append.mp hc with hc | hc
  · exact lower_clean (lower_rev h.le) c hc
  rcases List.mem_append.mp hc with hc | hc
  · split at hc
    · simp at hc; subst hc; exact no_blank 42 (by simp)
    · cases hc
  rcases List.mem_cons.mp hc with rfl | hc
  · exact no_blank _ (by omega)
  · exact lower_clean h.lg c hc
theorem bare_ne {e x : List Nat} (h : e ≠ []) : e ++ x ≠ [] := by
  cases e with
  | nil => exact absurd rfl h
  | cons a b => simp
theorem bare1_none {r : Rule} (h : RowOk r) : readRule (bare1 r) = none := by
  have he := lower_rev h.le
  have hel : 0 < r.ending.reverse.length := by rw [List.length_reverse]; exact List.length_pos_iff.mpr h.ne
  obtain ⟨c, q, hcq, hcD⟩ := next_D r h []
  unfold bare1
  generalize hE : r.ending.reverse = e at *
  cases hw : r.whole with
  | true =>
    have hL : e ++ ((if true = true then [42] else []) ++ (r.given ++ [stop r])) = e ++ 42 :: (r.given ++ [stop r]) := by simp
    rw [hL]
    have hk : wordRun (e ++ 42 :: (r.given ++ [stop r])) 0 = e.length := by
      have := run_app (f := isW) (p := []) (a := e) (c := 42) (r := r.given ++ [stop r]) (lower_W he) (by decide)
      simpa using this
    have h42 := getD_app e (r.given ++ [stop r]) 42
    have hj : digRun (e ++ 42 :: (r.given ++ [stop r])) (e.length + 1) = e.length + 1 := by
      have := run_app (f := isD) (p := e ++ [42]) (a := []) (c := c) (r := q) (by simp) hcD
      rw [List.nil_append, ← hcq] at this
      simpa using this
    rw [readRule_star (j := e.length + 1) (by rw [hk]; exact hel) (by rw [hk]; simp) (by rw [hk]; exact h42) (by rw [hk]; exact hj) rfl, if_neg (by rw [hk]; rintro ⟨h1, _⟩; omega)]
  | false =>
    have hL : e ++ ((if false = true then [42] else []) ++ (r.given ++ [stop r])) = (e ++ r.given) ++ [stop r] := by simp
    rw [hL]
    have hlow : lower (e ++ r.given) := fun c hc => (List.mem_append.mp hc).elim (he c) (h.lg c)
    generalize hG : e ++ r.given = g at *
    have hk : wordRun (g ++ [stop r]) 0 = g.length := by
      have := run_app (f := isW) (p := []) (a := g) (c := stop r) (r := []) (lower_W hlow) (stop_W r)
      simpa using this
    have hs := getD_app g [] (stop r)
    refine readRule_none (p := lastDigI (g ++ [stop r]) (wordRun (g ++ [stop r]) 0 - 1)) ?_ rfl ?_
    · rintro ⟨_, _, h3⟩
      rw [hk, hs] at h3
      rcases stop_or r with h4 | h4 <;> rw [h4] at h3 <;> cases h3
    · rw [hk]
      unfold lastDigI
      split
      · omega
      · rw [lastDig_none]
        · decide
        · intro i h1 h2
          have hi : i < g.length := by omega
          have := getD_mid [] g [stop r] hi
          simp only [List.nil_append, List.length_nil, Nat.zero_add] at this
          rw [this]
          exact lower_D (hlow _ (getD_mem hi))
theorem bare2_none {r : Rule} (h : RowOk r) : readRule (bare2 r) = none := by
  have he := lower_rev h.le
  have hel : 0 < r.ending.reverse.length := by rw [List.length_reverse]; exact List.length_pos_iff.mpr h.ne
  have hd := dig_gone h
  unfold bare2
  generalize hE : r.ending.reverse = e at *
  cases hw : r.whole with
  | true =>
    have hL : e ++ ((if true = true then [42] else []) ++ (48 + r.gone) :: r.given) = e ++ 42 :: (48 + r.gone) :: r.given := by simp
    rw [hL]
    have hk : wordRun (e ++ 42 :: (48 + r.gone) :: r.given) 0 = e.length := by
      have := run_app (f := isW) (p := []) (a := e) (c := 42) (r := (48 + r.gone) :: r.given) (lower_W he) (by decide)
      simpa using this
    have h42 := getD_app e ((48 + r.gone) :: r.given) 42
    have hj : digRun (e ++ 42 :: (48 + r.gone) :: r.given) (e.length + 1) = e.length + 2 := by
      cases hg : r.given with
      | nil =>
        have := run_full (f := isD) (p := e ++ [42]) (a := [48 + r.gone]) (by simpa using hd)
        simpa using this
      | cons a b =>
        have := run_app (f := isD) (p := e ++ [42]) (a := [48 + r.gone]) (c := a) (r := b) (by simpa using hd) (lower_D (h.lg a (by rw [hg]; exact .head _)))
        simpa using this
    have hr : wordRun (e ++ 42 :: (48 + r.gone) :: r.given) (e.length + 2) = e.length + 2 + r.given.length := by
      have := run_full (f := isW) (p := e ++ [42, 48 + r.gone]) (a := r.given) (lower_W h.lg)
      simpa using this
    rw [readRule_star (j := e.length + 2) (r := e.length + 2 + r.given.length) (by rw [hk]; exact hel) (by rw [hk]; simp) (by rw [hk]; exact h42) (by rw [hk]; exact hj) hr, if_neg (by rintro ⟨_, h2, _⟩; simp at h2; omega)]
  | false =>
    have hL : e ++ ((if false = true then [42] else []) ++ (48 + r.gone) :: r.given) = e ++ (48 + r.gone) :: r.given := by simp
    rw [hL]
    have hk : wordRun (e ++ (48 + r.gone) :: r.given) 0 = (e ++ (48 + r.gone) :: r.given).length := by
      have := run_full (f := isW) (p := []) (a := e ++ (48 + r.gone) :: r.given) (by
        intro x hx
        rcases List.mem_append.mp hx with hx | hx
        · exact lower_W he x hx
        rcases List.mem_cons.mp hx with rfl | hx
        · exact dig_W hd
        · exact lower_W h.lg x hx)
      simpa using this
    unfold readRule
    rw [if_neg (by rw [hk]; rintro ⟨_, h2, _⟩; omega), if_neg (by rw [hk]; rintro ⟨_, h2, _⟩; omega)]
/-! figures -/
theorem getD_cases (l : List Nat) (i : Nat) : l.getD i 0 ∈ l ∨ l.getD i 0 = 0 := by
  by_cases h : i < l.length
  · exact .inl (getD_mem h)
  · right
    rw [List.getD_eq_getElem?_getD, List.getElem?_eq_none (by omega)]
    rfl
theorem noDig_getD {l : List Nat} (h : ∀ c ∈ l, isD c = false) (i : Nat) : isD (l.getD i 0) = false := by
  rcases getD_cases l i with e | e
  · exact h _ e
  · rw [e]; decide
theorem good_none {l : List Nat} (h : ∀ c ∈ l, isD c = false) : GoodDig l := fun i hi => by
  rw [noDig_getD h i] at hi
  cases hi
theorem good_one {p q : List Nat} {c : Nat} (hp : ∀ x ∈ p, isD x = false) (hq : ∀ x ∈ q, isD x = false) (hc : 49 ≤ c ∧ c ≤ 51) : GoodDig (p ++ c :: q) := by
  have after : ∀ j, (p ++ c :: q).getD (p.length + 1 + j) 0 = q.getD j 0 := fun j => by
    rw [List.getD_eq_getElem?_getD, List.getD_eq_getElem?_getD, List.getElem?_append_right (by omega)]
    have : p.length + 1 + j - p.length = j + 1 := by omega
    rw [this]
    rfl
  intro i hi
  rcases Nat.lt_trichotomy i p.length with h | h | h
  · exfalso
    have e : (p ++ c :: q).getD i 0 = p.getD i 0 := by
      rw [List.getD_eq_getElem?_getD, List.getD_eq_getElem?_getD, List.getElem?_append_left h]
    rw [e, noDig_getD hp i] at hi
    cases hi
  · subst h
    rw [getD_app]
    refine ⟨hc.1, hc.2, ?_⟩
    have := after 0
    rw [Nat.add_zero] at this
    rw [this]
    exact noDig_getD hq 0
  · exfalso
    obtain ⟨j, rfl⟩ : ∃ j, i = p.length + 1 + j := ⟨i - (p.length + 1), by omega⟩
    rw [after, noDig_getD hq j] at hi
    cases hi
theorem lower_noDig {l : List Nat} (h : lower l) : ∀ c ∈ l, isD c = false := fun c hc => lower_D (h c hc)
theorem noDig_app {a b : List Nat} (h1 : ∀ c ∈ a, isD c = false) (h2 : ∀ c ∈ b, isD c = false) : ∀ c ∈ a ++ b, isD c = false := fun c hc => (List.mem_append.mp hc).elim (h1 c) (h2 c)
theorem star_noDig (b : Bool) : ∀ c ∈ (if b = true then [42] else []), isD c = false := by cases b <;> decide
theorem stop_noDig (r : Rule) : ∀ c ∈ [stop r], isD c = false := by
  intro c hc
  simp at hc
  subst hc
  rcases stop_or r with h | h <;> rw [h] <;> decide
theorem remark_noDig {r : Rule} (h : RowOk r) : ∀ c ∈ remark r, isD c = false :=
  noDig_app (noDig_app (noDig_app (noDig_app (by decide) (lower_noDig h.le)) (by decide)) (lower_noDig h.lg)) (by decide)
theorem good_text {r : Rule} (h : RowOk r) (tail : List Nat) (ht : ∀ c ∈ tail, isD c = false) : GoodDig (ruleText r ++ tail) := by
  have e : ruleText r ++ tail = (r.ending.reverse ++ (if r.whole = true then [42] else [])) ++ (48 + r.gone) :: (r.given ++ [stop r] ++ tail) := by
    rw [ruleText_eq]; simp
  rw [e]
  exact good_one (noDig_app (lower_noDig (lower_rev h.le)) (star_noDig _)) (noDig_app (noDig_app (lower_noDig h.lg) (stop_noDig r)) ht) (gone_range h)
theorem good_bare1 {r : Rule} (h : RowOk r) : GoodDig (bare1 r) := good_none (noDig_app (lower_noDig (lower_rev h.le)) (noDig_app (star_noDig _) (noDig_app (lower_noDig h.lg) (stop_noDig r))))
theorem good_bare2 {r : Rule} (h : RowOk r) : GoodDig (bare2 r) := by
  have e : bare2 r = (r.ending.reverse ++ (if r.whole = true then [42] else [])) ++ (48 + r.gone) :: r.given := by unfold bare2; simp
  rw [e]
  exact good_one (noDig_app (lower_noDig (lower_rev h.le)) (star_noDig _)) (lower_noDig h.lg) (gone_range h)
/-- a line that the reader takes -/
structure GoodLine (x : List Nat) : Prop where
  n : 10 ∉ x
  l : x.length ≤ 50
  g : GoodDig (stripL blank x)
theorem no10 {a b : List Nat} (h1 : 10 ∉ a) (h2 : 10 ∉ b) : 10 ∉ a ++ b := fun h => (List.mem_append.mp h).elim h1 h2
theorem lower_no10 {l : List Nat} (h : lower l) : 10 ∉ l := fun hc => by have := h 10 hc; omega
theorem text_no10 {r : Rule} (h : RowOk r) : 10 ∉ ruleText r := by
  have := gone_range h
  rw [ruleText_eq]
  refine no10 (lower_no10 (lower_rev h.le)) (no10 (by split <;> decide) ?_)
  intro hc
  rcases List.mem_cons.mp hc with e | hc
  · omega
  · exact no10 (lower_no10 h.lg) (by rcases stop_or r with h | h <;> rw [h] <;> decide) hc
theorem text_len {r : Rule} (h : RowOk r) : (ruleText r).length ≤ 8 := by
  have := h.e3; have := h.n2
  rw [ruleText_eq]
  simp only [List.length_append, List.length_reverse, List.length_cons, List.length_nil]
  split <;> simp <;> omega
theorem remark_len {r : Rule} (h : RowOk r) : (remark r).length ≤ 20 := by
  have := h.e3; have := h.n2
  unfold remark
  simp only [List.length_append, List.length_cons, List.length_nil]
  omega
theorem row_good {r : Rule} (h : RowOk r) (d : Int) : ∀ x ∈ rowLines r d, GoodLine x := by
  have hl := text_len h
  have hm := remark_len h
  have t1 : GoodLine (ruleText r) := ⟨text_no10 h, by omega, by rw [strip_text h]; have := good_text h [] (by simp); simpa using this⟩
  intro x hx
  unfold rowLines at hx
  split at hx
  · rw [List.mem_singleton.mp hx]
    refine ⟨no10 (no10 (by decide) (text_no10 h)) (no10 (no10 (no10 (no10 (by decide) (lower_no10 h.le)) (by decide)) (lower_no10 h.lg)) (by decide)), ?_, ?_⟩
    · simp only [List.length_append, List.length_cons, List.length_nil]
      omega
    · rw [strip_remark h]
      exact good_text h _ (remark_noDig h)
  · split at hx
    · rcases List.mem_cons.mp hx with rfl | hx
      · exact t1
      · rw [List.mem_singleton.mp hx]
        exact ⟨by decide, by decide, by rw [strip_blank (by intro c hc; simp at hc; subst hc; exact blank_32)]; exact good_none (by simp)⟩
    · rw [List.mem_singleton.mp hx]
      exact t1
theorem bare1_good {r : Rule} (h : RowOk r) : GoodLine (bare1 r) := by
  have := h.e3; have := h.n2
  refine ⟨no10 (lower_no10 (lower_rev h.le)) (no10 (by split <;> decide) (no10 (lower_no10 h.lg) (by rcases stop_or r with h | h <;> rw [h] <;> decide))), ?_, by rw [strip_clean (bare1_clean h)]; exact good_bare1 h⟩
  unfold bare1
  simp only [List.length_append, List.length_reverse, List.length_cons, List.length_nil]
  split <;> simp <;> omega
theorem bare2_good {r : Rule} (h : RowOk r) : GoodLine (bare2 r) := by
  have := h.e3; have := h.n2
  have := gone_range h
  refine ⟨no10 (lower_no10 (lower_rev h.le)) (no10 (by split <;> decide) ?_), ?_, by rw [strip_clean (bare2_clean h)]; exact good_bare2 h⟩
  · intro hc
    rcases List.mem_cons.mp hc with e | hc
    · omega
    · exact lower_no10 h.lg hc
  · unfold bare2
    simp only [List.length_append, List.length_reverse, List.length_cons, List.length_nil]
    split <;> simp <;> omega
/-! the whole table -/
theorem joinC_app (c : Nat) (B : List (List Nat)) (hB : B ≠ []) : ∀ A : List (List Nat), A ≠ [] → joinC c (A ++ B) = joinC c A ++ c :: joinC c B
  | [], h => absurd rfl h
  | [x], _ => by
    cases B with
    | nil => exact absurd rfl hB
    | cons y r => rfl
  | x :: y :: r, _ => by
    show x ++ c :: joinC c ((y :: r) ++ B) = (x ++ c :: joinC c (y :: r)) ++ _
    rw [joinC_app c B hB (y :: r) (by simp)]
    simp
theorem joinC_len (c : Nat) : ∀ A : List (List Nat), (∀ p ∈ A, p.length ≤ 50) → (joinC c A).length ≤ 51 * A.length
  | [], _ => Nat.zero_le _
  | [x], h => by
    have := h x (.head _)
    show x.length ≤ 51 * 1
    omega
  | x :: y :: r, h => by
    have h1 := h x (.head _)
    have h2 := joinC_len c (y :: r) fun p hp => h p (.tail _ hp)
    show (x ++ c :: joinC c (y :: r)).length ≤ _
    rw [List.length_append, List.length_cons, List.length_cons]
    omega
/-- the lines of a table of rules in their dress -/
noncomputable def tabLines : List (Rule × Int) → List (List Nat)
  | [] => [[]]
  | p :: r => tabLines r ++ rowLines p.1 p.2
theorem rowLines_ne (r : Rule) (d : Int) : rowLines r d ≠ [] := by
  unfold rowLines
  split
  · simp
  · split <;> simp
theorem rowLines_len (r : Rule) (d : Int) : (rowLines r d).length ≤ 2 := by
  unfold rowLines
  split
  · simp
  · split <;> simp
theorem tabLines_ne : ∀ l, tabLines l ≠ []
  | [] => by simp [tabLines]
  | p :: r => by
    unfold tabLines
    have := tabLines_ne r
    simp [this]
theorem tabLines_len : ∀ l, (tabLines l).length ≤ 1 + 2 * l.length
  | [] => by simp [tabLines]
  | p :: r => by
    have h1 := tabLines_len r
    have h2 := rowLines_len p.1 p.2
    unfold tabLines
    rw [List.length_append, List.length_cons]
    omega
theorem tabLines_good : ∀ l : List (Rule × Int), (∀ p ∈ l, RowOk p.1) → ∀ x ∈ tabLines l, GoodLine x
  | [], _, x, hx => by
    rw [List.mem_singleton.mp hx]
    exact ⟨by decide, by decide, by rw [strip_blank (by simp)]; exact good_none (by simp)⟩
  | p :: r, h, x, hx => by
    rcases List.mem_append.mp hx with hx | hx
    · exact tabLines_good r (fun q hq => h q (.tail _ hq)) x hx
    · exact row_good (h p (.head _)) p.2 x hx
theorem tableOf_app {A B : List (List Nat)} {rs : List Rule} (hA : tableOf A = some rs) : tableOf (A ++ B) = (tableOf B).map (rs ++ ·) := by
  induction A generalizing rs with
  | nil =>
    cases hA
    show tableOf B = _
    cases tableOf B <;> simp
  | cons a r ih =>
    show tableOf (a :: (r ++ B)) = _
    rw [tableOf] at hA ⊢
    split
    · rename_i h
      rw [if_pos h] at hA
      exact ih hA
    · rename_i h
      rw [if_neg h] at hA
      cases hr : readRule (stripL blank a) with
      | none => rw [hr] at hA; cases hA
      | some q =>
        rw [hr] at hA
        simp only at hA ⊢
        cases ht : tableOf r with
        | none => rw [ht] at hA; cases hA
        | some rs2 =>
          rw [ht] at hA
          cases hA
          rw [ih ht]
          cases tableOf B <;> simp
theorem tabLines_read : ∀ l : List (Rule × Int), (∀ p ∈ l, RowOk p.1) → tableOf (tabLines l) = some (l.reverse.map (·.1))
  | [], _ => by
    show tableOf [[]] = _
    rw [tableOf, strip_blank (by simp), if_pos rfl]
    rfl
  | p :: r, h => by
    unfold tabLines
    rw [tableOf_app (tabLines_read r fun q hq => h q (.tail _ hq))]
    have := table_row (h p (.head _)) p.2 []
    rw [List.append_nil] at this
    rw [this]
    simp [tableOf]
theorem tab_step {l : List (Rule × Int)} {r : Rule} {d : Int} : joinC 10 (tabLines l) ++ [10] ++ written r d = joinC 10 (tabLines ((r, d) :: l)) := by
  rw [written_lines]
  show _ = joinC 10 (tabLines l ++ rowLines r d)
  rw [joinC_app 10 _ (rowLines_ne r d) _ (tabLines_ne l)]
  simp
theorem spoilt_none {l : List (Rule × Int)} {x : List Nat} (hx : x ≠ []) (hc : ∀ c ∈ x, blank c = false) (hn : readRule x = none) : tableOf (tabLines l ++ [x]) = none := by
  refine table_none ?_ ?_ _
  · rw [strip_clean hc]; exact hx
  · rw [strip_clean hc]; exact hn
theorem spoilt_text {l : List (Rule × Int)} {x : List Nat} : joinC 10 (tabLines l) ++ [10] ++ x = joinC 10 (tabLines l ++ [x]) := by
  rw [joinC_app 10 [x] (by simp) _ (tabLines_ne l)]
  simp [joinC]
end Mine

end
section
namespace Mine
section
variable {prog : Program} {w : World} {A : Around} {E : Value → Shared → Prop} {s : Shared} {h₀ : Heap} {L l : Addr} {news : List (Addr × Obj)} {vs : List Value} {nn : Nat} {Q : Value → Shared → Prop}
theorem len_L (N : News h₀ L s.heap news) (hm : (l, listOf vs.toArray nn) ∈ news) (hl : vs.length ≤ 1000000) (h : ∀ t k, Q (.int (vs.length : Nat) t) { s with toks := k }) : wpAny (model prog w) A (call (.builtin "len") [.ref l]) Q E s := by
  have hl2 : s.heap.IsList l vs.toArray := ⟨_, (N _ hm).1, rfl, nn, rfl⟩
  refine Calls.call_len_list hl2 (by rw [List.size_toArray]; omega) ?_
  rw [List.size_toArray]
  exact h _ _
end
section
variable {prog : Program} {w : World} {A : Around} {E : Value → Shared → Prop} {s : Shared} {h₀ : Heap} {L a b l : Addr} {m : Str → Option Value} {news news' : List (Addr × Obj)} {xs ys : List Value} {x v : Value} {n n2 nn : Nat} {Q : Value → Shared → Prop}
theorem cat_L (F : Fr h₀ L s.heap m) (N : News h₀ L s.heap news) (ha : s.heap.get? a = some (listOf xs.toArray n)) (hb : s.heap.get? b = some (listOf ys.toArray n2)) (hz : xs.length + ys.length ≤ 10000)
    (h : ∀ D h', Fr h₀ L h' m → News h₀ L h' ((D, listOf (xs ++ ys).toArray 0) :: news) → (∀ p ∈ news, p.1 < D) → Q (.ref D) { s with heap := h' }) : wpAny (model prog w) A (binaryOp .Add (.ref a) (.ref b)) Q E s := by
  have F1 : Fr h₀ L (s.heap.push { cls := .type "list", data := .seq (xs.toArray ++ ys.toArray) }) m := F.push _
  have e : (xs.toArray ++ ys.toArray) = (xs ++ ys).toArray := by simp
  refine P.add_list (n := n) (n2 := n2) ha hb ?_ (by rw [sizeLine_eq, List.size_toArray, List.size_toArray]; omega)
  refine h s.heap.objs.size _ F1 ?_ (fun p hp => Heap.lt_size (N p hp).1)
  rw [e]
  exact news_pushed F N (fun b o q => Heap.get?_push_of_some _ q) (Heap.get?_push_size _ rfl) rfl
end
theorem starts_obj {w : World} {h : Heap} (X : (hd.heap_39 w.params).In h) : ∃ vs n, h.get? 83 = some (listOf vs.toArray n) ∧ Texts starts vs :=
  ⟨_, _, X 83 _ rfl, .cons ⟨_, congrArg (Value.str · _) lit_13⟩ (.cons ⟨_, congrArg (Value.str · _) lit_14⟩ (.cons ⟨_, congrArg (Value.str · _) lit_15⟩ (.cons ⟨_, congrArg (Value.str · _) lit_16⟩ (.cons ⟨_, congrArg (Value.str · _) lit_17⟩ (.cons ⟨_, congrArg (Value.str · _) lit_18⟩ (.cons ⟨_, congrArg (Value.str · _) lit_19⟩ (.cons ⟨_, congrArg (Value.str · _) lit_20⟩ (.cons ⟨_, congrArg (Value.str · _) lit_21⟩ .nil))))))))⟩
theorem starts_lower : ∀ z ∈ starts, lower z ∧ z.length ≤ 6 := by
  have h : ∀ z ∈ starts, (∀ c ∈ z, 97 ≤ c ∧ c ≤ 122) ∧ z.length ≤ 6 := by decide
  exact h
theorem pieces_ok {ms : List Int} : ∀ z ∈ letters.map (fun c => [c]) ++ (ms.map order).map (·.ending) ++ starts, lower z ∧ z.length ≤ 6 := by
  intro z hz
  rcases List.mem_append.mp hz with hz | hz
  · rcases List.mem_append.mp hz with hz | hz
    · obtain ⟨c, hc, rfl⟩ := List.mem_map.mp hz
      refine ⟨?_, by simp⟩
      intro d hd
      rw [List.mem_singleton.mp hd]
      exact letters_lower c hc
    · obtain ⟨r, hr, rfl⟩ := List.mem_map.mp hz
      obtain ⟨k, _, rfl⟩ := List.mem_map.mp hr
      exact ⟨(order_ok k).le, Nat.le_trans (order_ok k).e3 (by decide)⟩
  · exact starts_lower z hz
section
variable {prog : Program} {w : World} {A : Around} {E : Value → Shared → Prop} {s : Shared} {l : Addr} {xs : List Value} {x v : Value} {n : Nat} {Q : Value → Shared → Prop}
theorem item_neg1 {value slice : PySem.Expr} {u : Tok} (hl : s.heap.IsList l (xs ++ [x]).toArray) (h : Q x s)
    (hs : subscripted slice false (.ref l) (.int (-1) u) = operate [.ref l, .int (-1) u] (getItem (.ref l) (.int (-1) u)) := by with_unfolding_all rfl) (hg : ∀ r, letTemporaryGo value (.ref l) r = pure () := by intro _; with_unfolding_all rfl) :
    wpAny (model prog w) A (subscriptTail value slice (.ref l) (.int (-1) u)) Q E s := by
  have e : ((-1 : Int) + ((xs ++ [x]).toArray.size : Nat)).toNat = xs.length := by
    rw [List.size_toArray, List.length_append, List.length_singleton]; omega
  refine subscriptTail_builtin hl.typeIs slot_list_getitem.lookup (wpAny_getItem_list_neg hl (by decide) (by rw [List.size_toArray, List.length_append, List.length_singleton]; omega) (by decide) (x := x) ?_ h) hs hg
  rw [e]
  simp
theorem setL_last (xs : List Value) (x v : Value) : ki_setL (xs ++ [x]) xs.length v = some (xs ++ [v]) := by
  induction xs with
  | nil => rfl
  | cons a r ih =>
    show (match ki_setL (r ++ [x]) r.length v with | some q => some (a :: q) | none => none) = _
    rw [ih]
    rfl
end
theorem news_two {h₀ h : Heap} {L a b : Addr} {x y : Obj} {r : List (Addr × Obj)} (N : News h₀ L h ((a, x) :: (b, y) :: r)) : ∃ a' b', a' = a ∧ b' = b := ⟨a, b, rfl, rfl⟩
theorem last_tok {h₀ h : Heap} {L a : Addr} {r : List (Addr × Obj)} {xs : List Value} {z : Str} {t : Tok} {n : Nat} (N : News h₀ L h ((a, listOf (xs ++ [Value.str z t]).toArray n) :: r)) : ∃ t', t' = t := ⟨t, rfl⟩
structure PiecesMark : Prop
/-- the words' list behind a statement that may have grown it -/
noncomputable def WordsAt (h₀ : Heap) (L : Addr) (m : Str → Option Value) (led : Obj → List (Addr × Obj)) (n : Nat) (s s' : Shared) : Prop :=
  ∃ (wl : List (List Nat)) (wv : List Value) (lw : List Nat) (tw : Tok) (nn : Nat) (h : Heap) (tk : Nat), s' = { s with heap := h, toks := tk } ∧ Fr h₀ L h m ∧ News h₀ L h (led (listOf (wv ++ [Value.str (S lw) tw]).toArray nn)) ∧ Texts wl wv ∧ (∀ x ∈ wl, lower x ∧ x.length ≤ 18) ∧ lower lw ∧ lw.length ≤ 18 ∧ wl.length ≤ n
theorem words_at {h₀ : Heap} {L : Addr} {m : Str → Option Value} {led : Obj → List (Addr × Obj)} {n : Nat} {s : Shared} {wl : List (List Nat)} {wv : List Value} {lw : List Nat} {tw : Tok} {nn : Nat} {h : Heap} {tk : Nat} (F : Fr h₀ L h m) (N : News h₀ L h (led (listOf (wv ++ [Value.str (S lw) tw]).toArray nn))) (h1 : Texts wl wv) (h2 : ∀ x ∈ wl, lower x ∧ x.length ≤ 18) (h3 : lower lw) (h4 : lw.length ≤ 18) (h5 : wl.length ≤ n) : WordsAt h₀ L m led n s { s with heap := h, toks := tk } := ⟨wl, wv, lw, tw, nn, h, tk, rfl, F, N, h1, h2, h3, h4, h5⟩
theorem words_cut {prog : Program} {w : World} {A : Around} {E : Value → Shared → Prop} {Q : Flow → Shared → Prop} {s : Shared} {env : Env} {st : Stmt} {rest : List Stmt} {h₀ : Heap} {L : Addr} {m : Str → Option Value} (led : Obj → List (Addr × Obj)) (n : Nat) (F : Fr h₀ L s.heap m)
    (h1 : wpAny (model prog w) A (exec st env) (fun f s' => match f with | .next => WordsAt h₀ L m led n s s' | _ => False) E s)
    (h2 : ∀ wl wv lw tw nn h tk, Fr h₀ L h m → News h₀ L h (led (listOf (wv ++ [Value.str (S lw) tw]).toArray nn)) → Texts wl wv → (∀ x ∈ wl, lower x ∧ x.length ≤ 18) → lower lw → lw.length ≤ 18 → wl.length ≤ n → wpAny (model prog w) A (execs rest env) Q E { s with heap := h, toks := tk }) :
    wpAny (model prog w) A (execs (st :: rest) env) Q E s :=
  execs_cut _ h1 fun s' ⟨wl, wv, lw, tw, nn, h, tk, e, F', N', a1, a2, a3, a4, a5⟩ => e ▸ h2 wl wv lw tw nn h tk F' N' a1 a2 a3 a4 a5
theorem Stemmer.more {prog : Program} {w : World} {nw nw' : List (Addr × Obj)} {x : Addr} {rs : List Rule} (h : Stemmer prog w nw x rs) (hs : ∀ p ∈ nw, p ∈ nw') : Stemmer prog w nw' x rs :=
  let ⟨d, kh, kt, rd, nn, o, kvs, h1, h2, h3, h4⟩ := h
  ⟨d, kh, kt, rd, nn, o, kvs, hs _ h1, hs _ h2, h3, h4.more hs⟩
theorem lower_cut {a b : List Nat} {n : Nat} (ha : lower a) (hb : lower b) : lower ((a ++ b).take n) := fun c hc => (List.mem_append.mp (List.mem_of_mem_take hc)).elim (ha c) (hb c)
theorem len_cut {l : List Nat} : (l.take (Int.toNat 18)).length ≤ 18 := by rw [List.length_take]; exact Nat.min_le_left _ _
theorem word_tok {h₀ h : Heap} {L a b : Addr} {x : Obj} {r : List (Addr × Obj)} {z : Str} {t : Tok} {n : Nat} (N : News h₀ L h ((a, x) :: (b, listOf #[.str z t] n) :: r)) : ∃ t', t' = t := ⟨t, rfl⟩
theorem push_tok {h₀ h : Heap} {L a : Addr} {r : List (Addr × Obj)} {ar : Array Value} {z : Str} {t : Tok} {n : Nat} (N : News h₀ L h ((a, listOf (ar.push (.str z t)) n) :: r)) : ∃ t', t' = t := ⟨t, rfl⟩
theorem Texts.app {zs zs' : List (List Nat)} {ys ys' : List Value} (h : Texts zs ys) (h' : Texts zs' ys') : Texts (zs ++ zs') (ys ++ ys') := by
  unfold Texts at *
  induction h with
  | nil => exact h'
  | cons a r ih => exact .cons a ih
theorem comp_new {h₀ h' : Heap} {L I C D q : Addr} {m : Str → Option Value} {s₁ : Shared} {oI oC oD o : Obj} {S : List (Addr × Obj) → Prop} {rest : Value → List (Addr × Obj) → Prop} {y : Value} {tk : Nat} {nw : List (Addr × Obj)}
    (F : Fr h₀ L h' m) (N : News h₀ L h' ((q, o) :: (I, oI) :: (C, oC) :: (D, oD) :: nw)) (lq : ∀ p ∈ (I, oI) :: (C, oC) :: (D, oD) :: nw, p.1 < q) (off : LCg.Off3 I C D nw) (hS : S ((q, o) :: nw)) (r : rest y ((q, o) :: nw)) :
    LCg.CompEnd h₀ L m s₁ I oI C oC D oD S rest y { s₁ with heap := h', toks := tk } := by
  refine LCg.CompEnd.intro F N ((q, o) :: nw) ?_ ⟨⟨?_, ?_, ?_⟩, off⟩ hS r
  · intro p hp
    rcases List.mem_cons.mp hp with rfl | hp
    · exact .tail _ (.head _)
    rcases List.mem_cons.mp hp with rfl | hp
    · exact .tail _ (.tail _ (.head _))
    rcases List.mem_cons.mp hp with rfl | hp
    · exact .tail _ (.tail _ (.tail _ (.head _)))
    rcases List.mem_cons.mp hp with rfl | hp
    · exact .head _
    · exact .tail _ (.tail _ (.tail _ (.tail _ hp)))
  · exact Nat.ne_of_gt (lq _ (.head _))
  · exact Nat.ne_of_gt (lq _ (.tail _ (.head _)))
  · exact Nat.ne_of_gt (lq _ (.tail _ (.tail _ (.head _))))
theorem RowOk.e1000 {r : Rule} (h : RowOk r) : r.ending.length ≤ 1000 := Nat.le_trans h.e3 (by decide)
theorem RowOk.n1000 {r : Rule} (h : RowOk r) : r.given.length ≤ 1000 := Nat.le_trans h.n2 (by decide)
theorem RowOk.g3 {r : Rule} (h : RowOk r) : r.gone ≤ 3 := Nat.le_trans h.ge h.e3
theorem rules_take {ms : List Int} {i : Nat} {k : Int} (hk : ms[i]? = some k) : (ms.take (i + 1)).map order = (ms.take i).map order ++ [order k] := by
  rw [List.take_add_one, hk, List.map_append]
  rfl
theorem written_len {r : Rule} (h : RowOk r) (d : Int) : (written r d).length ≤ 110 := by
  rw [written_lines]
  have h1 := joinC_len 10 (rowLines r d) fun p hp => (row_good h d p hp).l
  have h2 := rowLines_len r d
  omega
theorem ms_len {f : Int} {n : Nat} {ns : List Int} (h : 0 ≤ f.fmod 6 ∧ f.fmod 6 < 6) : (List.take (min (1 + f.fmod 6).toNat n - 1) (List.drop 1 ns)).length ≤ 5 := by
  have h6 : (1 + f.fmod 6).toNat ≤ 6 := Int.toNat_le.mpr (by omega)
  rw [List.length_take]
  exact Nat.le_trans (Nat.min_le_left _ _) (Nat.le_trans (Nat.sub_le_sub_right (Nat.min_le_left _ _) 1) (Nat.sub_le_sub_right h6 1))
theorem ms_len2 {k : Nat} {ns : List Int} : (List.take k (List.drop 1 ns)).length ≤ ns.length - 1 := by
  rw [List.length_take, List.length_drop]
  exact Nat.min_le_right _ _
theorem tab_le2 {l : List (Rule × Int)} (h : l.length ≤ 5) : (tabLines l).length + 1 ≤ 100 := by
  have h2 := tabLines_len l
  omega
theorem tab_le {l : List (Rule × Int)} (hok : ∀ p ∈ l, RowOk p.1) (h : l.length ≤ 5) : (joinC 10 (tabLines l)).length ≤ 1000 := by
  have h1 := joinC_len 10 (tabLines l) fun p hp => (tabLines_good l hok p hp).l
  have h2 := tabLines_len l
  omega
theorem idx0 (i : Nat) : (0 : Int) ≤ 0 + (i : Int) := by omega
theorem idx1 {i : Nat} (h : i ≤ 1000) : 0 + (i : Int) < 2 ^ 63 := by omega
theorem sum35 (n : Nat) : 26 + n + 9 = 35 + n := by omega
theorem ne35 (n : Nat) : ((35 + n : Nat) : Int) ≠ 0 := by omega
theorem pos35 (n : Nat) : (0 : Int) < ((35 + n : Nat) : Int) := by omega
theorem lt35 {x : Int} {n : Nat} (h : 0 ≤ x) (h2 : x < ((35 + n : Nat) : Int)) : x.toNat < 35 + n := by omega
theorem small35 {x : Int} {n : Nat} (h2 : x < ((35 + n : Nat) : Int)) (hn : n ≤ 5) : x < 2 ^ 63 := by omega
theorem le_grow {a b i k : Nat} (h : a = b) (h2 : a ≤ i) (h3 : i ≤ 63) (hk : 64 ≤ k) : b + 1 ≤ k := by omega
theorem last_index (xs : List Value) (x : Value) : seqIndex? (-1) (xs ++ [x]).toArray.size = some xs.length := by
  rw [PySem.seqIndex_neg (by decide) (by rw [List.size_toArray, List.length_append, List.length_singleton]; omega), List.size_toArray, List.length_append, List.length_singleton]
  congr 1
  omega
theorem strs_of {zs : List (List Nat)} {ys : List Value} (h : Texts zs ys) : StrsAre ys (zs.map S) := by
  unfold Texts at h
  induction h with
  | nil => exact .nil
  | cons a r ih =>
    obtain ⟨t, rfl⟩ := a
    exact .cons _ t ih
theorem join_nil : ∀ l : List Nat, Str.join (S []) ((l.map fun c => [c]).map S) = S l
  | [] => rfl
  | [a] => rfl
  | a :: b :: r => by
    show S [a] ++ S [] ++ Str.join (S []) (((b :: r).map fun c => [c]).map S) = _
    rw [join_nil (b :: r), S_append, S_append]
    rfl
theorem ones_sum : ∀ l : List Nat, ((((l.map fun c => [c]).map S).map (·.length)).sum) = l.length
  | [] => rfl
  | a :: r => by
    show (S [a]).length + ((((r.map fun c => [c]).map S).map (·.length)).sum) = _
    rw [ones_sum r, S_length]
    simp
    omega
theorem join_SS {prog : Program} {w : World} {A : Around} {E : Value → Shared → Prop} {s : Shared} {h₀ : Heap} {L D : Addr} {news : List (Addr × Obj)} {ys : List Value} {l : List Nat} {t : Tok} {Q : Value → Shared → Prop} (N : News h₀ L s.heap news) (hm : (D, LCg.lst ys) ∈ news) (hy : Texts (l.map fun c => [c]) ys) (hl : l.length ≤ 1000)
    (h : ∀ t k, Q (.str (S l) t) { s with toks := k }) : wpAny (model prog w) A (call (.builtin "str.join") [.str (S []) t, .ref D]) Q E s := by
  refine join_list (items := ys.toArray) (ys := (l.map fun c => [c]).map S) ⟨_, (N _ hm).1, rfl, _, rfl⟩ (strs_of hy) ?_ ?_
  · rw [ones_sum, S_length]
    simp
    omega
  · intro t' k
    have e : Txt.join (S []) ((l.map fun c => [c]).map S) = S l := (StrLaws.glued_eq_join _ _).trans (join_nil l)
    rw [e]
    exact h t' k
theorem add_W {prog : Program} {w : World} {A : Around} {E : Value → Shared → Prop} {hp : Heap} {gg : Array GenState} {dr : Drawn} {tk : Nat} {oo : OsState} {Q : Value → Shared → Prop} {l₁ : List Nat} {k d : Int} {t u : Tok} (hl : l₁.length ≤ 100000) (h : ∀ t k', Q (.str (S (l₁ ++ written (order k) d)) t) ⟨hp, gg, dr, k', oo⟩) : wpAny (model prog w) A (binaryOp .Add (.str (S l₁) t) (.str (S (written (order k) d)) u)) Q E ⟨hp, gg, dr, tk, oo⟩ :=
  add_S (by have := written_len (order_ok k) d; omega) h
end Mine



theorem Mine.law : PySem.Challenge.rw_iv0074_01.Holds := Mine.hd (by
  w_top off
  k_with_none
  (k_with "eval Constant str" => (k_here; first | (with_reducible refine Mine.const_S Mine.lit_0 ?_) | (with_reducible refine Mine.const_S Mine.lit_1 ?_) | (with_reducible refine Mine.const_S Mine.lit_2 ?_) | (with_reducible refine Mine.const_S Mine.lit_3 ?_) | (with_reducible refine Mine.const_S Mine.lit_4 ?_) | (with_reducible refine Mine.const_S Mine.lit_5 ?_) | (with_reducible refine Mine.const_S Mine.lit_6 ?_) | (with_reducible refine Mine.const_S Mine.lit_7 ?_) | (with_reducible refine Mine.const_S Mine.lit_8 ?_) | (with_reducible refine Mine.const_S Mine.lit_9 ?_) | (with_reducible refine Mine.const_S Mine.lit_10 ?_) | (with_reducible refine Mine.const_S Mine.lit_11 ?_) | (with_reducible refine Mine.const_S Mine.lit_12 ?_) | (with_reducible refine Mine.const_S Mine.lit_13 ?_) | (with_reducible refine Mine.const_S Mine.lit_14 ?_) | (with_reducible refine Mine.const_S Mine.lit_15 ?_) | (with_reducible refine Mine.const_S Mine.lit_16 ?_) | (with_reducible refine Mine.const_S Mine.lit_17 ?_) | (with_reducible refine Mine.const_S Mine.lit_18 ?_) | (with_reducible refine Mine.const_S Mine.lit_19 ?_) | (with_reducible refine Mine.const_S Mine.lit_20 ?_) | (with_reducible refine Mine.const_S Mine.lit_21 ?_) | (with_reducible refine Mine.const_S Mine.lit_22 ?_) | (with_reducible refine Mine.const_S Mine.lit_23 ?_) | (with_reducible refine Mine.const_S Mine.lit_24 ?_) | (with_reducible refine Mine.const_S Mine.lit_25 ?_) | (with_reducible refine Mine.const_S Mine.lit_26 ?_) | (with_reducible refine Mine.const_S Mine.lit_27 ?_) | (with_reducible refine Mine.const_S Mine.lit_28 ?_) | (with_reducible refine Mine.const_S Mine.lit_29 ?_) | (with_reducible refine Mine.const_S Mine.lit_30 ?_) | (with_reducible refine Mine.const_S Mine.lit_31 ?_) | (with_reducible refine Mine.const_S Mine.lit_32 ?_) | (with_reducible refine Mine.const_S Mine.lit_33 ?_) | (with_reducible refine Mine.const_S Mine.lit_34 ?_); intro _ _))
  (k_with "eval IfExp" => (k_here; first | (with_reducible refine Mine.ifexp_S Mine.lit_7 Mine.lit_12 (by decide) (by decide) ?_) | (with_reducible refine Mine.ifexp_S Mine.lit_9 Mine.lit_8 (by decide) (by decide) ?_)))
  (k_with "call builtin:len" => (k_here; (with_reducible show wpAny _ _ (call (Value.builtin "len") [Value.str (Mine.S _) _]) _ _ _); (refine Mine.len_S (by walk_at "OM") ?_); intro _ _))
  (k_with "truthy str" => (k_here; (with_reducible show wpAny _ _ (PySem.truthy (Value.str (Mine.S _) _)) _ _ _); (refine Mine.truthy_S (by walk_at "OM") ?_); intro _))
  (k_with "compareOp LtE str str" => (k_here; (with_reducible refine Mine.le_S ?_)))
  (k_with "compareOp Eq str str" => (k_here; (with_reducible refine Mine.eq_SS ?_)))
  (k_with "compareOp NotEq str str" => (k_here; (with_reducible refine Mine.ne_SS ?_)))
  (k_with "compareOp NotIn str str" => (k_here; (with_reducible refine Mine.notin_S ?_)))
  (k_with "binaryOp Add str str" => (k_here; (with_reducible show wpAny _ _ (binaryOp Operator.Add (Value.str (Mine.S _) _) (Value.str (Mine.S _) _)) _ _ _); (refine Mine.add_S (by walk_at "OM") ?_); intro _ _))
  (k_with "call builtin:str.find" => (k_here; (with_reducible refine Mine.find_SS ?_); intro _ _))
  (k_with "call builtin:str.startswith" => (k_here; (with_reducible refine Mine.starts_SS ?_)))
  (k_with "call builtin:str.endswith" => (k_here; (with_reducible refine Mine.ends_SS ?_)))
  (k_with "call builtin:str.strip" => (k_here; (with_reducible show wpAny _ _ (call (Value.builtin "str.strip") [Value.str (Mine.S _) _]) _ _ _); (refine Mine.strip_SS (by walk_at "OM") ?_); intro _ _))
  (k_with "subscriptTail Name Name str int" => (k_here; (with_reducible show wpAny _ _ (subscriptTail _ _ (Value.str (Mine.S _) _) (Value.int _ _)) _ _ _); (refine Mine.item_SS (by walk_at "OM") (by walk_at "OM") (by walk_at "OM") ?_); intro _ _))
  (k_with "subscriptTail Name Constant str int" => (k_here; (with_reducible show wpAny _ _ (subscriptTail _ _ (Value.str (Mine.S _) _) (Value.int _ _)) _ _ _); (refine Mine.item_SS (by walk_at "OM") (by walk_at "OM") (by walk_at "OM") ?_); intro _ _))
  (k_with "subscriptTail Name BinOp str int" => (k_here; (with_reducible show wpAny _ _ (subscriptTail _ _ (Value.str (Mine.S _) _) (Value.int _ _)) _ _ _); (refine Mine.item_SS (by walk_at "OM") (by walk_at "OM") (by walk_at "OM") ?_); intro _ _))
  (k_with "subscriptTail Name UnaryOp str int" => (k_here; (with_reducible show wpAny _ _ (subscriptTail _ _ (Value.str (Mine.S _) _) (Value.int (-1) _)) _ _ _); (refine Mine.item_SL ?_ (by walk_at "OM") ?_); rotate_left; intro _ _))
  (k_with "subscriptTail Name Name str int" => (k_here; (with_reducible show wpAny _ _ (subscriptTail _ _ (Value.str (Str.ofString _) _) (Value.int _ _)) _ _ _); (refine Mine.item_lit Mine.lit_34 (by (first | omega | exact fmod_lo _ (by decide) | exact fmod_hi _ (by decide) | fail "no bound")) (by (first | omega | exact fmod_lo _ (by decide) | exact fmod_hi _ (by decide) | fail "no bound")) (by decide) ?_); intro _ _))
  (k_with "subscriptTail Name Slice str ref" => (k_here; (with_reducible show wpAny _ _ (subscriptTail _ (Expr.Slice none (some _) none _) (Value.str (Mine.S _) _) _) _ _ _); (with_reducible rename Fr _ _ _ _ => wF); (with_reducible rename News _ _ _ _ => wN); (first | (refine Mine.slice_SS_to wF wN (by walk_at "OM") (by walk_at "OM") ?_) | (refine Mine.slice_SS_neg wF wN (by walk_at "OM") (by walk_at "OM") (by walk_at "OM") ?_)); intro _ _ _ _ _))
  (k_with "subscriptTail Name Slice str ref" => (k_here; (with_reducible show wpAny _ _ (subscriptTail _ (Expr.Slice (some _) none none _) (Value.str (Mine.S _) _) _) _ _ _); (with_reducible rename Fr _ _ _ _ => wF); (with_reducible rename News _ _ _ _ => wN); (refine Mine.slice_SS_from wF wN (by walk_at "OM") (by walk_at "OM") ?_); intro _ _ _ _ _))
  (k_with "subscriptTail Name Slice str ref" => (k_here; (with_reducible show wpAny _ _ (subscriptTail _ (Expr.Slice (some _) (some _) none _) (Value.str (Mine.S _) _) _) _ _ _); (with_reducible rename Fr _ _ _ _ => wF); (with_reducible rename News _ _ _ _ => wN); (refine Mine.slice_SS_mid wF wN (by walk_at "OM") (by walk_at "OM") (by walk_at "OM") (by walk_at "OM") ?_); intro _ _ _ _ _))
  (k_with "subscriptTail Name Slice str ref" => (k_here; (with_reducible show wpAny _ _ (subscriptTail _ (Expr.Slice none none (some _) _) (Value.str (Mine.S _) _) _) _ _ _); (with_reducible rename Fr _ _ _ _ => wF); (with_reducible rename News _ _ _ _ => wN); (refine Mine.slice_SS_rev wF wN (by walk_at "OM") ?_); intro _ _ _ _ _))
  (k_with "subscriptTail BinOp Slice str ref" => (k_here; (with_reducible show wpAny _ _ (subscriptTail _ (Expr.Slice none (some _) none _) (Value.str (Mine.S _) _) _) _ _ _); (with_reducible rename Fr _ _ _ _ => wF); (with_reducible rename News _ _ _ _ => wN); (first | (refine Mine.slice_SS_to wF wN (by walk_at "OM") (by walk_at "OM") ?_) | (refine Mine.slice_SS_neg wF wN (by walk_at "OM") (by walk_at "OM") (by walk_at "OM") ?_)); intro _ _ _ _ _))
  (k_with "subscriptTail BinOp Slice str ref" => (k_here; (with_reducible show wpAny _ _ (subscriptTail _ (Expr.Slice (some _) none none _) (Value.str (Mine.S _) _) _) _ _ _); (with_reducible rename Fr _ _ _ _ => wF); (with_reducible rename News _ _ _ _ => wN); (refine Mine.slice_SS_from wF wN (by walk_at "OM") (by walk_at "OM") ?_); intro _ _ _ _ _))
  (k_with "subscriptTail BinOp Slice str ref" => (k_here; (with_reducible show wpAny _ _ (subscriptTail _ (Expr.Slice (some _) (some _) none _) (Value.str (Mine.S _) _) _) _ _ _); (with_reducible rename Fr _ _ _ _ => wF); (with_reducible rename News _ _ _ _ => wN); (refine Mine.slice_SS_mid wF wN (by walk_at "OM") (by walk_at "OM") (by walk_at "OM") (by walk_at "OM") ?_); intro _ _ _ _ _))
  (k_with "subscriptTail BinOp Slice str ref" => (k_here; (with_reducible show wpAny _ _ (subscriptTail _ (Expr.Slice none none (some _) _) (Value.str (Mine.S _) _) _) _ _ _); (with_reducible rename Fr _ _ _ _ => wF); (with_reducible rename News _ _ _ _ => wN); (refine Mine.slice_SS_rev wF wN (by walk_at "OM") ?_); intro _ _ _ _ _))
  (k_with "pyIter ref" => ((with_reducible show wpAny _ _ (pyIter (Value.ref _)) (fun _ _ => LoopAtV _ _ _ _ _ _ _ _ _ _ _) _ _); refine Mine.Halt.go ?_))
  (k_with "pyIter str" => ((with_reducible show wpAny _ _ (pyIter (Value.str _ _)) (fun _ _ => LoopAtV _ _ _ _ _ _ _ _ _ _ _) _ _); refine Mine.Halt.go ?_))
  (k_with "exec For Name Name cons nil" => (k_here; (rename Fr _ _ _ _ => wlF); (with_unfolding_all refine For_invVF wlF (by exact rfl) (by exact rfl) ?_; k_whole)))
  (k_with "exec For Name Call cons nil" => (k_here; (rename Fr _ _ _ _ => wlF); (with_unfolding_all refine For_invVF wlF (by exact rfl) (by exact rfl) ?_; k_whole)))
  (k_with "exec For Name Subscript cons nil" => (k_here; (rename Fr _ _ _ _ => wlF); (with_unfolding_all refine For_invVF wlF (by exact rfl) (by exact rfl) ?_; k_whole)))
  (k_with "exec For Name Tuple cons nil" => (k_here; (rename Fr _ _ _ _ => wlF); (with_unfolding_all refine For_invVF wlF (by exact rfl) (by exact rfl) ?_; k_whole)))
  (k_with "KswEnd" => (refine Mine.Halt.go ?_))
  (k_with "ExitPost" => (refine Mine.Halt.go ?_))
  (k_with "LcEnd" => (refine Mine.Halt.go ?_))
  (k_with "LcBrk" => (refine Mine.Halt.go ?_))
  (k_with "LcPost" => (dsimp only [Mine.LcPost]))
  (k_with "eval ListComp" => (k_here; first | ((with_reducible show wpAny _ _ (eval (Expr.ListComp _ [⟨_, _, [], _⟩] _ _) _) _ _ _); k_dflt (refine Mine.comp_EU (by with_unfolding_all rfl) (by decide) (by rfl) (by decide) (by rfl) ?_)) | ((with_reducible show wpAny _ _ (eval (Expr.ListComp _ [⟨_, _, [_], _⟩] _ _) _) _ _ _); k_dflt (refine Mine.comp_ET (by with_unfolding_all rfl) (by decide) (by rfl) (by decide) (by rfl) ?_))))
  (k_with "exec Assign cons ListComp" => (k_here; first | ((with_reducible show wpAny _ _ (exec (Stmt.Assign _ (Expr.ListComp _ [⟨_, _, [], _⟩] _ _) _) _) _ _ _); k_dflt (refine Mine.comp_AU (by with_unfolding_all rfl) (by with_unfolding_all rfl) (by decide) (by rfl) (by decide) (by rfl) (by rfl) (by rfl) ?_)) | ((with_reducible show wpAny _ _ (exec (Stmt.Assign _ (Expr.ListComp _ [⟨_, _, [_], _⟩] _ _) _) _) _ _ _); k_dflt (refine Mine.comp_AT (by with_unfolding_all rfl) (by with_unfolding_all rfl) (by decide) (by rfl) (by decide) (by rfl) (by rfl) (by rfl) ?_))))
  (k_with "pyIter ref" => (first | ((with_reducible show wpAny _ _ (pyIter (Value.ref _)) (Mine.CompAtT _ _ _ _ _ _ _ _ _ _) _ _); refine Mine.Halt.go ?_) | ((with_reducible show wpAny _ _ (pyIter (Value.ref _)) (Mine.CompAtU _ _ _ _ _ _ _ _ _) _ _); refine Mine.Halt.go ?_)))
  (k_with "pyIter str" => (first | ((with_reducible show wpAny _ _ (pyIter (Value.str _ _)) (Mine.CompAtT _ _ _ _ _ _ _ _ _ _) _ _); refine Mine.Halt.go ?_) | ((with_reducible show wpAny _ _ (pyIter (Value.str _ _)) (Mine.CompAtU _ _ _ _ _ _ _ _ _) _ _); refine Mine.Halt.go ?_)))
  (k_with "TestPost" => (refine And.intro (fun whb => ?_) (fun whb => ?_) <;> (try (exact absurd whb (by decide)))))
  (k_with "CompEnd" => (refine Mine.Halt.go ?_))
  (k_with "FinE" => (refine Mine.Halt.go ?_))
  (k_with "FinA" => (refine Mine.Halt.go ?_))
  (k_with "compareOp NotEq ref ref" => (k_here; refine Mine.ne_nil (by k_asm) (by k_mem) (by k_mem) (by ktr_units) ?_))
  (k_with "compareOp Eq ref ref" => (k_here; refine Mine.eq_nil (by k_asm) (by k_mem) (by k_mem) (by ktr_units) ?_))
  (k_with "call ref" => (k_here; (with_reducible show wpAny _ _ (call (Value.ref 97) [Value.int _ _]) _ _ _); k_dflt (first | (refine Mine.c_law_order  (by k_asm) (by k_asm) (by k_asm) (by k_asm) (by k_asm) (by first | exact rfl | assumption) (by ktr_room) (by ktr_units)  ?_; k_whole; intro _ _ _ _ _ _ _ _ _; (try dsimp only); (try k_sweep); (try k_fold)))))
  (k_with "call ref" => (k_here; (with_reducible show wpAny _ _ (call (Value.ref 104) [Value.ref _, Value.int _ _]) _ _ _); k_dflt (first | (refine Mine.c_law_written  (by k_asm) (by k_asm) (by k_asm) (by k_asm) (by k_asm) (by first | exact rfl | assumption) (by ktr_room) (by ktr_units) (by first | exact List.Mem.head _ | assumption) (by (first | exact (Mine.order_ok _).e1000 | exact (by assumption : Mine.RowOk _).e1000)) (by (first | exact (Mine.order_ok _).n1000 | exact (by assumption : Mine.RowOk _).n1000)) (by (first | exact (Mine.order_ok _).g1 | exact (by assumption : Mine.RowOk _).g1)) (by (first | exact (Mine.order_ok _).g3 | exact (by assumption : Mine.RowOk _).g3)) ?_; k_whole; intro _ _ _ _ _; (try dsimp only); (try k_sweep); (try k_fold)))))
  (k_with "call ref" => (k_here; (with_reducible show wpAny _ _ (call (Value.ref 116) [Value.str (Mine.S _) _]) _ _ _); k_dflt (first | (refine Mine.c_law_bare  (by k_asm) (by k_asm) (by k_asm) (by k_asm) (by k_asm) (by first | exact rfl | assumption) (by ktr_room) (by ktr_units) (by walk_at "OM") ?_; k_whole; intro _ _ _ _ _; (try dsimp only); (try k_sweep); (try k_fold)))))
  (k_with "pyIter ref" => ((with_reducible show wpAny _ _ (pyIter (Value.ref _)) (Mine.LoopAtX _ _ _ _ _ _ _ _) _ _); refine Mine.Halt.go ?_))
  (k_with "eval IfExp" => ((fail_if_success (with_reducible show wpAny _ _ (eval _ _) (Mine.IntIs _ _) _ _)); refine Mine.Halt.go ?_))
  (k_with "call builtin:len" => ((with_reducible show wpAny _ _ (call (Value.builtin "len") [Value.ref _]) _ _ _); refine Mine.Halt.go ?_))
  (k_with "subscriptTail Name Name ref int" => (refine Mine.Halt.go ?_))
  (k_with "binaryOp Add str str" => (k_here; (with_reducible show wpAny _ _ (binaryOp Operator.Add (Value.str (Mine.S _) _) (Value.str (Mine.S (Mine.written (Mine.order _) _)) _)) _ _ _); (refine Mine.add_W (by walk_at "OM") ?_); intro _ _))
  (k_with "call ref" => ((with_reducible show wpAny _ _ (call (Value.ref 78) _) _ _ _); refine Mine.Halt.go ?_))
  (k_with "subscriptTail Name UnaryOp ref int" => (refine Mine.Halt.go ?_))
  (k_with "setItem ref int" => (refine Mine.Halt.go ?_))
  (k_with "call builtin:list.append" => (refine Mine.Halt.go ?_))
  (k_with "subscriptTail Name BinOp ref int" => ((rename Mine.PiecesMark => wpm); refine Mine.Halt.go ?_))
  (k_with "binaryOp Mod int int" => ((rename Mine.PiecesMark => wpm); refine Mine.Halt.go ?_))
  (k_with "call ref" => ((with_reducible show wpAny _ _ (call (Value.ref 121) _) _ _ _); refine Mine.Halt.go ?_))
  (k_with "call ref" => ((with_reducible show wpAny _ _ (call (Value.ref 75) _) _ _ _); refine Mine.Halt.go ?_))
  (k_with "subscriptTail Name Slice ref ref" => ((with_reducible show wpAny _ _ (subscriptTail _ (Expr.Slice none (some _) none _) (Value.ref _) (Value.ref _)) _ _ _); refine Mine.Halt.go ?_))
  (k_with "WordsAt" => (refine Mine.Halt.go ?_))
  (k_with "IntIs" => (refine Mine.Halt.go ?_))
  k_go0
  (all_goals try k_fold)
  (with_reducible rename IntsAre _ _ => hI)
  (with_reducible rename List Int => ns)
  repeat' (first | (k_unfold; (try dsimp only)) | ((fail_if_success (with_reducible show Mine.Halt _)); k_end; wrow_close) | walk1 | (dsimp only; walk1) | (leave1; walk_say "STEP leave1"; try dsimp only) | fail "no step")
  refine Mine.Halt.out ?_
  refine Mine.cut_int (ns.getD 0 0) ?_ ?_
  · repeat' (first | (k_unfold; (try dsimp only)) | ((fail_if_success (with_reducible show Mine.Halt _)); k_end; wrow_close) | walk1 | (dsimp only; walk1) | (leave1; walk_say "STEP leave1"; try dsimp only) | fail "no step")
    all_goals refine Mine.Halt.out ?_
    · exact ⟨_, _, rfl, rfl⟩
    · have hns : ns = [] := List.eq_nil_of_length_eq_zero (by omega)
      subst hns
      exact ⟨_, _, rfl, rfl⟩
  intro tf kf
  (try dsimp only)
  generalize hfi : ns.getD 0 0 = first
  repeat' (first | (k_unfold; (try dsimp only)) | ((fail_if_success (with_reducible show Mine.Halt _)); k_end; wrow_close) | walk1 | (dsimp only; walk1) | (leave1; walk_say "STEP leave1"; try dsimp only) | fail "no step")
  (try dsimp only)
  (with_reducible rename Fr _ _ _ _ => hF)
  (with_reducible rename News _ _ _ _ => hN)
  (with_reducible rename IntsAre _ _ => hI2)
  (with_reducible rename List Value => ws)
  (with_reducible rename Addr => D1)
  have hf1 : 0 ≤ first.fmod 6 ∧ first.fmod 6 < 6 := by
    rw [Int.fmod_eq_emod_of_nonneg _ (by decide)]
    exact ⟨Int.emod_nonneg _ (by decide), Int.emod_lt_of_pos _ (by decide)⟩
  have hml : (List.take (min (1 + first.fmod 6).toNat ns.length - 1) (List.drop 1 ns)).length ≤ 5 := by
    exact Mine.ms_len hf1
  have hml2 : (List.take (min (1 + first.fmod 6).toNat ns.length - 1) (List.drop 1 ns)).length ≤ ns.length - 1 := by
    exact Mine.ms_len2
  generalize hms : List.take (min (1 + first.fmod 6).toNat ns.length - 1) (List.drop 1 ns) = ms at hI2 hml hml2
  have hwl : ws.length = ms.length := hI2.length
  refine Mine.Halt.out ?_
  refine' Mine.list_compU (vs := ws) (nn := 0) (fun i ys nw => (∀ p ∈ [(D1, listOf ws.toArray 0)], p ∈ nw) ∧ Mine.Rules ((ms.take i).map Mine.order) ys nw) ?hh ?hL ?F₁ ?N₁ ?hl ?hsz ?hJ ?hSn ?turn ?done
  case hh => exact rfl
  case hL => exact rfl
  case F₁ => exact hF
  case N₁ => exact hN
  case hl => exact .head _
  case hsz => rw [hwl, sizeLine_eq]; exact Nat.le_trans hml (by decide)
  case hJ => exact ⟨fun p hp => hp, .nil⟩
  case hSn => rintro i zs nw ⟨h, -⟩; exact h _ (.head _)
  case turn =>
    clear hF hN
    intro S9 hS9 i zs nw hi hJ9 v I oI C oC D2 m9 h9 tk9 E9 hv9 hC9 hx9 F' N' hoff hne'
    try k_fold
    obtain ⟨hnw, hzs⟩ := hJ9
    obtain ⟨k, t9, rfl, hk⟩ := hI2.at i v hv9
    repeat' (first | (k_unfold; (try dsimp only)) | ((fail_if_success (with_reducible show Mine.Halt _)); k_end; wrow_close) | walk1 | (dsimp only; walk1) | (leave1; walk_say "STEP leave1"; try dsimp only) | fail "no step")
    (try dsimp only)
    refine Mine.Halt.out (Mine.comp_new (by assumption) (by assumption) (by assumption) hoff (hS9 _ (.tail _ (hnw _ (.head _)))) ⟨fun p hp => .tail _ (hnw p hp), ?_⟩)
    rw [Mine.rules_take hk]
    exact Mine.Rules.snoc (hzs.mono fun p hp => .tail _ hp) (.head _)
  case done =>
    clear hF hN
    rintro h9 ys nw ⟨hnw, hys⟩
    rw [hwl, List.take_length] at hys
    intro D2 h tk F' N' hoff
    (try dsimp only)
    (try k_fold)
    have hyl : ms.length = ys.length := by have := Paired.length hys; simpa using this
    repeat' (first | (k_unfold; (try dsimp only)) | ((fail_if_success (with_reducible show Mine.Halt _)); k_end; wrow_close) | walk1 | (dsimp only; walk1) | (leave1; walk_say "STEP leave1"; try dsimp only) | fail "no step")
    (with_reducible rename News _ _ _ _ => hN)
    refine Mine.Halt.out ?_
    refine Mine.len_L hN (.head _) (hyl ▸ Nat.le_trans hml (by decide)) ?_
    intro t8 k8
    rw [← hyl]
    repeat' (first | (k_unfold; (try dsimp only)) | ((fail_if_success (with_reducible show Mine.Halt _)); k_end; wrow_close) | walk1 | (dsimp only; walk1) | (leave1; walk_say "STEP leave1"; try dsimp only) | fail "no step")
    (try dsimp only)
    (with_reducible rename IsRange _ _ _ _ _ _ _ _ => hR)
    (with_reducible rename Fr _ _ _ _ => hF)
    (with_reducible rename News _ _ _ _ => hN)
    refine Mine.Halt.out ?_
    refine' Mine.range_cut (σ := List (Mine.Rule × Int) × Tok) (fun _ => (D2, LCg.lst ys) :: nw) (fun c => [(Str.ofString "table", .str (Mine.S (Mine.joinC 10 (Mine.tabLines c.1))) c.2)]) [] (fun i c => c.1.reverse.map (·.1) = (ms.take i).map Mine.order ∧ c.1.length = i ∧ ∀ p ∈ c.1, Mine.RowOk p.1) (fun _ => False) ([], _) rfl hR ?small ?size hF hN ?kk ?start ?turn2 ?brk ?done2
    case small => exact Mine.small_nat (Nat.le_trans hml (by decide))
    case size => exact rangeSize_nat _ _
    case kk => kst_all
    case start => exact ⟨rfl, rfl, fun p hp => by cases hp⟩
    case brk => intro c u h tk hf; exact hf.elim
    case turn2 =>
      clear hR hF hN
      intro i ti c9 u h tk own I hi hJ9 hoff F' N'
      (try dsimp only)
      (try k_fold)
      obtain ⟨l, tl⟩ := c9
      obtain ⟨hj1, hj2, hj3⟩ := hJ9
      have hi2 : i < ms.length := by rw [Mine.toNat_sub0] at hi; exact hi
      (try dsimp only at hj1 hj2 hj3 F' N' ⊢)
      (try k_fold)
      have hjl := Mine.tab_le hj3 (Nat.le_trans (Nat.le_of_eq hj2) (Nat.le_trans (Nat.le_of_lt hi2) hml))
      obtain ⟨v9, hv9⟩ : ∃ v9, ys[i]? = some v9 := ⟨_, List.getElem?_eq_getElem (hyl ▸ hi2)⟩
      obtain ⟨r, ra, t1, t2, t3, hr, rfl, hm⟩ := Mine.Rules.at hys hv9
      rw [List.getElem?_map] at hr
      obtain ⟨k, hk, rfl⟩ := Option.map_eq_some_iff.mp hr
      try k_fold
      repeat' (first | (k_unfold; (try dsimp only)) | ((fail_if_success (with_reducible show Mine.Halt _)); k_end; wrow_close) | walk1 | (dsimp only; walk1) | (leave1; walk_say "STEP leave1"; try dsimp only) | fail "no step")
      (try dsimp only)
      (with_reducible rename News _ _ _ _ => hN)
      refine Mine.Halt.out ?_
      have hDl := hN (D2, LCg.lst ys) (.head _)
      refine item_listL (l := ys) (k := 0 + (i : Int)) (x := .ref ra) ?hl (Mine.idx0 i) (Mine.idx1 (Nat.le_trans (Nat.le_of_lt hi2) (Nat.le_trans hml (by decide)))) ?hx ?_
      case hl => exact ⟨_, hDl.1, rfl, _, rfl⟩
      case hx => rw [Mine.toNat_0add]; exact hv9
      have hN2 := Mine.news_dup hN hm (fun p hp => .tail _ (List.mem_append_left _ hp))
      repeat' (first | (k_unfold; (try dsimp only)) | ((fail_if_success (with_reducible show Mine.Halt _)); k_end; wrow_close) | walk1 | (dsimp only; walk1) | (leave1; walk_say "STEP leave1"; try dsimp only) | fail "no step")
      (try dsimp only)
      (with_reducible rename Fr _ _ _ _ => hF)
      rw [Mine.tab_step] at hF
      refine Mine.Halt.out (Mine.lc_end ((Mine.order k, _) :: l, _) hF (by assumption) (by intro p hp; (try simp only [List.mem_append, List.mem_cons, List.not_mem_nil, or_false, or_assoc] at hp); first | (simp [hp]; done) | (with_reducible refine Or.elim hp (fun hp => ?_) (fun hp => ?_) <;> (first | (simp [hp]; done) | (with_reducible refine Or.elim hp (fun hp => ?_) (fun hp => ?_) <;> (first | (simp [hp]; done) | (with_reducible refine Or.elim hp (fun hp => ?_) (fun hp => ?_) <;> (first | (simp [hp]; done) | (with_reducible refine Or.elim hp (fun hp => ?_) (fun hp => ?_) <;> ((simp [hp]; done)))))))))) (by intro p hp; (try simp only [List.mem_append, List.mem_cons, List.not_mem_nil, or_false, or_assoc] at hp); first | (simp [hp]; done) | (with_reducible refine Or.elim hp (fun hp => ?_) (fun hp => ?_) <;> (first | (simp [hp]; done) | (with_reducible refine Or.elim hp (fun hp => ?_) (fun hp => ?_) <;> (first | (simp [hp]; done) | (with_reducible refine Or.elim hp (fun hp => ?_) (fun hp => ?_) <;> (first | (simp [hp]; done) | (with_reducible refine Or.elim hp (fun hp => ?_) (fun hp => ?_) <;> ((simp [hp]; done)))))))))) (fun p hp hm => hoff p hp (List.mem_singleton.mp hm)) (by kst_all) (by first | (intro z h1 h2 h3; (try dsimp only [kstB]); (repeat (refine Eq.trans (if_neg (by (first | exact h1 | exact Mine.off_stored h3 (by decide +kernel) | ((fail_if_success (exact Mine.not_stored h3)); exact Mine.sub_stored h3 (by decide +kernel)) | exact h2 _ (.head _) | exact h2 _ (.tail _ (.head _)) | exact h2 _ (.tail _ (.tail _ (.head _))) | exact h2 _ (.tail _ (.tail _ (.tail _ (.head _))))))) ?_)); first | exact if_neg (Mine.not_stored h3) | exact rfl) | (intro z h1 h2 h3; (try simp only [List.forall_mem_cons, List.not_mem_nil, false_implies, implies_true, and_true, ne_eq] at h2); (try simp only [List.contains_cons, List.contains_nil, Bool.or_false, Bool.or_eq_false_iff, beq_eq_false_iff_ne, ne_eq] at h3); simp [kstB, h1, h2, h3])) ⟨?_, ?_, ?_⟩)
      · rw [List.reverse_cons, List.map_append, hj1, Mine.rules_take hk]; rfl
      · exact congrArg (· + 1) hj2
      · intro p hp
        rcases List.mem_cons.mp hp with rfl | hp
        · exact Mine.order_ok _
        · exact hj3 p hp
    case done2 =>
      clear hR hF hN
      intro c9 u h tk hJ9 F' N'
      (try dsimp only)
      (try k_fold)
      obtain ⟨l, tl⟩ := c9
      obtain ⟨hj1, hj2, hj3⟩ := hJ9
      (try dsimp only at hj1 hj2 hj3 F' N' ⊢)
      rw [Mine.toNat_sub0] at hj2
      (try k_fold)
      repeat' (first | (k_unfold; (try dsimp only)) | ((fail_if_success (with_reducible show Mine.Halt _)); k_end; wrow_close) | walk1 | (dsimp only; walk1) | (leave1; walk_say "STEP leave1"; try dsimp only) | fail "no step")
      (try dsimp only)
      (with_reducible rename Fr _ _ _ _ => hF)
      (with_reducible rename News _ _ _ _ => hN)
      have hw0 : Mine.written (Mine.order first) 0 = Mine.ruleText (Mine.order first) := rfl
      rw [hw0] at hF ⊢
      have hro := Mine.order_ok first
      have hsl := Mine.text_len hro
      refine Mine.Halt.out ?_
      refine' Mine.text_compT (fun i zs nw' => (∀ p ∈ (D2, LCg.lst ys) :: nw, p ∈ nw') ∧ Mine.Texts ((((Mine.ruleText (Mine.order first)).take i).filter (fun c => decide (c ∉ [49, 50, 51]))).map (fun c => [c])) zs) ?hh ?hL ?F₁ ?N₁ ?hsz ?hJ ?turn3 ?done3
      case hh => exact rfl
      case hL => exact rfl
      case F₁ => exact hF
      case N₁ => exact hN
      case hsz => rw [sizeLine_eq]; exact Nat.le_trans hsl (by decide)
      case hJ => exact ⟨(by intro p hp; (try simp only [List.mem_append, List.mem_cons, List.not_mem_nil, or_false, or_assoc] at hp); first | (simp [hp]; done) | (with_reducible refine Or.elim hp (fun hp => ?_) (fun hp => ?_) <;> (first | (simp [hp]; done) | (with_reducible refine Or.elim hp (fun hp => ?_) (fun hp => ?_) <;> (first | (simp [hp]; done) | (with_reducible refine Or.elim hp (fun hp => ?_) (fun hp => ?_) <;> (first | (simp [hp]; done) | (with_reducible refine Or.elim hp (fun hp => ?_) (fun hp => ?_) <;> ((simp [hp]; done)))))))))), Mine.Texts.nil⟩
      case turn3 =>
        clear hF hN
        intro S9 hS9 i zs nw' hi hJ9 v I oI C oC D m9 h9 tk9 E9 hV9 hC9 hx9 F' N' hoff hne
        try k_fold
        obtain ⟨hnw', hzs⟩ := hJ9
        obtain ⟨k, tk, hk, rfl⟩ := hV9
        repeat' (first | (k_unfold; (try dsimp only)) | ((fail_if_success (with_reducible show Mine.Halt _)); k_end; wrow_close) | walk1 | (dsimp only; walk1) | (leave1; walk_say "STEP leave1"; try dsimp only) | fail "no step")
        all_goals (
          (try dsimp only)
          refine Mine.Halt.out (LCg.CompEnd.intro (by assumption) (by assumption) nw' (by intro p hp; (try simp only [List.mem_append, List.mem_cons, List.not_mem_nil, or_false, or_assoc] at hp); first | (simp [hp]; done) | (with_reducible refine Or.elim hp (fun hp => ?_) (fun hp => ?_) <;> (first | (simp [hp]; done) | (with_reducible refine Or.elim hp (fun hp => ?_) (fun hp => ?_) <;> (first | (simp [hp]; done) | (with_reducible refine Or.elim hp (fun hp => ?_) (fun hp => ?_) <;> (first | (simp [hp]; done) | (with_reducible refine Or.elim hp (fun hp => ?_) (fun hp => ?_) <;> ((simp [hp]; done)))))))))) hoff (hS9 _) ⟨hnw', ?_⟩)
          (with_reducible rename (decide _ = _) => hb9)
          have e9 := Mine.signs_take (fun c => decide (c ∉ [49, 50, 51])) hk
          simp only [hb9] at e9
          rw [e9]
          first | exact Mine.Texts.snoc hzs | simpa using hzs)
      case done3 =>
        clear hF hN
        rintro h9 zs nw' ⟨hnw', hzs⟩
        rw [List.take_length, Mine.bare1_eq hro] at hzs
        have hbl : (Mine.bare1 (Mine.order first)).length ≤ 50 := (Mine.bare1_good hro).l
        intro D h tk F' N' hoff
        (try dsimp only)
        (try k_fold)
        repeat' (first | (k_unfold; (try dsimp only)) | ((fail_if_success (with_reducible show Mine.Halt _)); k_end; wrow_close) | walk1 | (dsimp only; walk1) | (leave1; walk_say "STEP leave1"; try dsimp only) | fail "no step")
        (try dsimp only)
        (with_reducible rename News _ _ _ _ => hN)
        refine Mine.join_SS hN (.head _) hzs (Nat.le_trans hbl (by decide)) ?_
        intro t8 k8
        have hsl0 : 0 < (Mine.ruleText (Mine.order first)).length := by
          obtain ⟨a, ha, _⟩ := Mine.text_head hro
          cases hrt : Mine.ruleText (Mine.order first) with
          | nil => rw [hrt] at ha; cases ha
          | cons b q => simp
        repeat' (first | (k_unfold; (try dsimp only)) | ((fail_if_success (with_reducible show Mine.Halt _)); k_end; wrow_close) | walk1 | (dsimp only; walk1) | (leave1; walk_say "STEP leave1"; try dsimp only) | fail "no step")
        (try dsimp only)
        have hb2 : (Mine.ruleText (Mine.order first)).take (((Mine.ruleText (Mine.order first)).length : Int) - 1).toNat = Mine.bare2 (Mine.order first) := by
          rw [← Mine.bare2_eq, Mine.toNat_pred hsl0]
        (with_reducible rename Fr _ _ _ _ => hF)
        (with_reducible rename News _ _ _ _ => hN)
        rw [hb2] at hN
        refine Mine.Halt.out ?_
        refine' Mine.tuple_cut (σ := Unit) (fun _ => _) (fun _ => []) [Str.ofString "refused"] (fun i _ => True) (fun _ => False) () rfl ?hl hF hN ?kk ?start ?turn4 ?brk ?done4
        case hl => exact .head _
        case kk => kst_all
        case start => trivial
        case brk => intro c u h tk hf; exact hf.elim
        case turn4 =>
          clear hF hN
          intro i v c9 u h tk own I hi hv hJ9 hoff hI F' N'
          (try dsimp only)
          (try k_fold)
          have hj := hJ9
          (try dsimp only at F' N' ⊢)
          (try k_fold)
          obtain ⟨x, tx, rfl, hx1, hx2, hx3, hx4⟩ : ∃ x t, v = .str (Mine.S x) t ∧ x ≠ [] ∧ (∀ c ∈ x, Mine.blank c = false) ∧ Mine.readRule x = none ∧ Mine.GoodLine x := by
            rcases List.mem_cons.mp (List.mem_of_getElem? hv) with e | hv
            · exact ⟨_, _, e, Mine.bare_ne (by simpa using hro.ne), Mine.bare1_clean hro, Mine.bare1_none hro, Mine.bare1_good hro⟩
            · exact ⟨_, _, List.mem_singleton.mp hv, Mine.bare_ne (by simpa using hro.ne), Mine.bare2_clean hro, Mine.bare2_none hro, Mine.bare2_good hro⟩
          have hxl := hx4.l
          have hjl := Mine.tab_le hj3 (Nat.le_trans (Nat.le_of_eq hj2) hml)
          repeat' (first | (k_unfold; (try dsimp only)) | ((fail_if_success (with_reducible show Mine.Halt _)); k_end; wrow_close) | walk1 | (dsimp only; walk1) | (leave1; walk_say "STEP leave1"; try dsimp only) | fail "no step")
          (try dsimp only)
          have hgl : ∀ p ∈ Mine.tabLines l ++ [x], Mine.GoodLine p := fun p hp => (List.mem_append.mp hp).elim (Mine.tabLines_good l hj3 p) (fun h => (List.mem_singleton.mp h) ▸ hx4)
          have hgn : (Mine.tabLines l ++ [x]).length ≤ 100 := by
            rw [List.length_append, List.length_singleton]
            exact Mine.tab_le2 (Nat.le_trans (Nat.le_of_eq hj2) hml)
          have hgj := Mine.joinC_len 10 (Mine.tabLines l ++ [x]) fun p hp => (hgl p hp).l
          have hno := Mine.spoilt_none (l := l) hx1 hx2 hx3
          rw [Mine.spoilt_text]
          refine Mine.Halt.out ?_
          refine' Mine.c_class (A₁ := Mine.tabLines l ++ [x]) ?kB ?kF ?kX ?kN ?kT ?kK ?kd ?ku (by simp) (fun p hp => (hgl p hp).n) (fun p hp => Nat.le_trans (hgl p hp).l (by decide)) (fun p hp => (hgl p hp).g) hgn (Nat.le_trans hgj (Nat.le_trans (Nat.mul_le_mul_left 51 hgn) (by decide))) ?g1 ?g2
          case kB => k_asm
          case kF => k_asm
          case kX => k_asm
          case kN => k_asm
          case kT => k_asm
          case kK => first | exact rfl | assumption
          case kd => ktr_room
          case ku => ktr_units
          case g1 => intro rs hrs; rw [hno] at hrs; cases hrs
          case g2 =>
            intro _ g e te vs h9 tk9 F9 R9 U9
            (try dsimp only)
            repeat' (first | (k_unfold; (try dsimp only)) | ((fail_if_success (with_reducible show Mine.Halt _)); k_end; wrow_close) | walk1 | (dsimp only; walk1) | (leave1; walk_say "STEP leave1"; try dsimp only) | fail "no step")
            (try dsimp only)
            exact Mine.Halt.out (Mine.lc_end () (by assumption) (by assumption) (by intro p hp; (try simp only [List.mem_append, List.mem_cons, List.not_mem_nil, or_false, or_assoc] at hp); first | (simp [hp]; done) | (with_reducible refine Or.elim hp (fun hp => ?_) (fun hp => ?_) <;> (first | (simp [hp]; done) | (with_reducible refine Or.elim hp (fun hp => ?_) (fun hp => ?_) <;> (first | (simp [hp]; done) | (with_reducible refine Or.elim hp (fun hp => ?_) (fun hp => ?_) <;> (first | (simp [hp]; done) | (with_reducible refine Or.elim hp (fun hp => ?_) (fun hp => ?_) <;> ((simp [hp]; done)))))))))) (by intro p hp; (try simp only [List.mem_append, List.mem_cons, List.not_mem_nil, or_false, or_assoc] at hp); first | (simp [hp]; done) | (with_reducible refine Or.elim hp (fun hp => ?_) (fun hp => ?_) <;> (first | (simp [hp]; done) | (with_reducible refine Or.elim hp (fun hp => ?_) (fun hp => ?_) <;> (first | (simp [hp]; done) | (with_reducible refine Or.elim hp (fun hp => ?_) (fun hp => ?_) <;> (first | (simp [hp]; done) | (with_reducible refine Or.elim hp (fun hp => ?_) (fun hp => ?_) <;> ((simp [hp]; done)))))))))) (fun p hp hm => hoff p hp (List.mem_singleton.mp hm)) (by kst_all) (by first | (intro z h1 h2 h3; (try dsimp only [kstB]); (repeat (refine Eq.trans (if_neg (by (first | exact h1 | exact Mine.off_stored h3 (by decide +kernel) | ((fail_if_success (exact Mine.not_stored h3)); exact Mine.sub_stored h3 (by decide +kernel)) | exact h2 _ (.head _) | exact h2 _ (.tail _ (.head _)) | exact h2 _ (.tail _ (.tail _ (.head _))) | exact h2 _ (.tail _ (.tail _ (.tail _ (.head _))))))) ?_)); first | exact if_neg (Mine.not_stored h3) | exact rfl) | (intro z h1 h2 h3; (try simp only [List.forall_mem_cons, List.not_mem_nil, false_implies, implies_true, and_true, ne_eq] at h2); (try simp only [List.contains_cons, List.contains_nil, Bool.or_false, Bool.or_eq_false_iff, beq_eq_false_iff_ne, ne_eq] at h3); simp [kstB, h1, h2, h3])) trivial)
        case done4 =>
          clear hF hN
          intro c9 u h tk hJ9 F' N'
          (try dsimp only)
          (try k_fold)
          have hj := hJ9
          (try dsimp only at F' N' ⊢)
          (try k_fold)
          repeat' (first | (k_unfold; (try dsimp only)) | ((fail_if_success (with_reducible show Mine.Halt _)); k_end; wrow_close) | walk1 | (dsimp only; walk1) | (leave1; walk_say "STEP leave1"; try dsimp only) | fail "no step")
          (try dsimp only)
          (with_reducible rename Fr _ _ _ _ => hF)
          (with_reducible rename News _ _ _ _ => hN)
          rw [show (Str.ofString "aeioustnrldmcphgbvfywkxjqz") = Mine.S Mine.letters from Mine.lit_34]
          refine Mine.Halt.out ?_
          refine' Mine.text_compU (fun i zs nw' => (∀ p ∈ (D2, LCg.lst ys) :: nw, p ∈ nw') ∧ Mine.Texts ((Mine.letters.take i).map (fun c => [c])) zs) ?hh ?hL ?F₁ ?N₁ ?hsz ?hJ ?turn5 ?done5
          case hh => exact rfl
          case hL => exact rfl
          case F₁ => exact hF
          case N₁ => exact hN
          case hsz => decide
          case hJ => exact ⟨fun p hp => .tail _ (.tail _ (hnw' p hp)), Mine.Texts.nil⟩
          case turn5 =>
            clear hF hN
            intro S9 hS9 i zs nw' hi hJ9 v I oI C oC D m9 h9 tk9 E9 hV9 hC9 hx9 F' N' hoff hne
            try k_fold
            obtain ⟨hnw', hzs⟩ := hJ9
            obtain ⟨k, tk, hk, rfl⟩ := hV9
            repeat' (first | (k_unfold; (try dsimp only)) | ((fail_if_success (with_reducible show Mine.Halt _)); k_end; wrow_close) | walk1 | (dsimp only; walk1) | (leave1; walk_say "STEP leave1"; try dsimp only) | fail "no step")
            (try dsimp only)
            refine Mine.Halt.out (LCg.CompEnd.intro (by assumption) (by assumption) nw' (by intro p hp; (try simp only [List.mem_append, List.mem_cons, List.not_mem_nil, or_false, or_assoc] at hp); first | (simp [hp]; done) | (with_reducible refine Or.elim hp (fun hp => ?_) (fun hp => ?_) <;> (first | (simp [hp]; done) | (with_reducible refine Or.elim hp (fun hp => ?_) (fun hp => ?_) <;> (first | (simp [hp]; done) | (with_reducible refine Or.elim hp (fun hp => ?_) (fun hp => ?_) <;> (first | (simp [hp]; done) | (with_reducible refine Or.elim hp (fun hp => ?_) (fun hp => ?_) <;> ((simp [hp]; done)))))))))) hoff (hS9 _) ⟨hnw', ?_⟩)
            rw [List.take_add_one, hk, List.map_append]
            exact Mine.Texts.snoc hzs
          case done5 =>
            clear hF hN
            rintro h9 zs5 nw5 ⟨hnw5, hzs5⟩
            intro D5 h tk F' N' hoff
            (try dsimp only)
            (try k_fold)
            repeat' (first | (k_unfold; (try dsimp only)) | ((fail_if_success (with_reducible show Mine.Halt _)); k_end; wrow_close) | walk1 | (dsimp only; walk1) | (leave1; walk_say "STEP leave1"; try dsimp only) | fail "no step")
            (try dsimp only)
            (with_reducible rename Fr _ _ _ _ => hF)
            (with_reducible rename News _ _ _ _ => hN)
            refine Mine.Halt.out ?_
            refine' Mine.list_compU (vs := ys) (nn := ys.length) (fun i zs nw' => (∀ p ∈ (D5, LCg.lst zs5) :: nw5, p ∈ nw') ∧ Mine.Texts (((ms.take i).map Mine.order).map (·.ending)) zs) ?hh ?hL ?F₁ ?N₁ ?hl ?hsz ?hJ ?hSn ?turn6 ?done6
            case hh => exact rfl
            case hL => exact rfl
            case F₁ => exact hF
            case N₁ => exact hN
            case hl => exact .tail _ (hnw5 _ (.head _))
            case hsz => rw [sizeLine_eq]; exact hyl ▸ Nat.le_trans hml (by decide)
            case hJ => exact ⟨fun p hp => hp, Mine.Texts.nil⟩
            case hSn => rintro i zs nw' ⟨h, -⟩; exact h _ (.tail _ (hnw5 _ (.head _)))
            case turn6 =>
              clear hF hN
              intro S9 hS9 i zs nw' hi hJ9 v I oI C oC D m9 h9 tk9 E9 hv9 hC9 hx9 F' N' hoff hne
              try k_fold
              obtain ⟨hnw', hzs⟩ := hJ9
              obtain ⟨r, ra, t1, t2, t3, hr, rfl, hm⟩ := Mine.Rules.at hys hv9
              rw [List.getElem?_map] at hr
              obtain ⟨k, hk, rfl⟩ := Option.map_eq_some_iff.mp hr
              have hm2 := hnw' _ (.tail _ (hnw5 _ (.tail _ hm)))
              replace N' := Mine.news_dup N' hm2 (by intro p hp; (try simp only [List.mem_append, List.mem_cons, List.not_mem_nil, or_false, or_assoc] at hp); first | (simp [hp]; done) | (with_reducible refine Or.elim hp (fun hp => ?_) (fun hp => ?_) <;> (first | (simp [hp]; done) | (with_reducible refine Or.elim hp (fun hp => ?_) (fun hp => ?_) <;> (first | (simp [hp]; done) | (with_reducible refine Or.elim hp (fun hp => ?_) (fun hp => ?_) <;> (first | (simp [hp]; done) | (with_reducible refine Or.elim hp (fun hp => ?_) (fun hp => ?_) <;> ((simp [hp]; done))))))))))
              dsimp only [Mine.tupObj] at N'
              repeat' (first | (k_unfold; (try dsimp only)) | ((fail_if_success (with_reducible show Mine.Halt _)); k_end; wrow_close) | walk1 | (dsimp only; walk1) | (leave1; walk_say "STEP leave1"; try dsimp only) | fail "no step")
              (try dsimp only)
              refine Mine.Halt.out (LCg.CompEnd.intro (by assumption) (by assumption) nw' (by intro p hp; (try simp only [List.mem_append, List.mem_cons, List.not_mem_nil, or_false, or_assoc] at hp); first | (simp [hp]; done) | (with_reducible refine Or.elim hp (fun hp => ?_) (fun hp => ?_) <;> (first | (simp [hp]; done) | (with_reducible refine Or.elim hp (fun hp => ?_) (fun hp => ?_) <;> (first | (simp [hp]; done) | (with_reducible refine Or.elim hp (fun hp => ?_) (fun hp => ?_) <;> (first | (simp [hp]; done) | (with_reducible refine Or.elim hp (fun hp => ?_) (fun hp => ?_) <;> ((simp [hp]; done)))))))))) hoff (hS9 _ (hnw' _ (.tail _ (hnw5 _ (.head _))))) ⟨hnw', ?_⟩)
              rw [Mine.rules_take hk, List.map_append]
              exact Mine.Texts.snoc hzs
            case done6 =>
              clear hF hN
              rintro h9 zs6 nw6 ⟨hnw6, hzs6⟩
              intro D6 h tk F' N' hoff
              (try dsimp only)
              (try k_fold)
              rw [List.take_of_length_le (Nat.le_of_eq hyl)] at hzs6
              rw [List.take_of_length_le (by decide)] at hzs5
              have hz6 : zs6.length = ms.length := by have := hzs6.length; simpa using this.symm
              have hz5 : zs5.length = 26 := by have := hzs5.length; exact this.symm
              repeat' (first | (k_unfold; (try dsimp only)) | ((fail_if_success (with_reducible show Mine.Halt _)); k_end; wrow_close) | walk1 | (dsimp only; walk1) | (leave1; walk_say "STEP leave1"; try dsimp only) | fail "no step")
              (try dsimp only)
              (with_reducible rename Fr _ _ _ _ => hF)
              (with_reducible rename News _ _ _ _ => hN)
              refine Mine.cat_L (xs := zs5) (ys := zs6) hF hN (hN (D5, LCg.lst zs5) (.tail _ (hnw6 _ (.head _)))).1 (hN (D6, LCg.lst zs6) (.head _)).1 (by rw [hz5, hz6]; exact Nat.le_trans (Nat.add_le_add_left hml 26) (by decide)) ?_
              intro D7 h7 F7 N7 l7
              (try dsimp only)
              repeat' (first | (k_unfold; (try dsimp only)) | ((fail_if_success (with_reducible show Mine.Halt _)); k_end; wrow_close) | walk1 | (dsimp only; walk1) | (leave1; walk_say "STEP leave1"; try dsimp only) | fail "no step")
              (try dsimp only)
              (with_reducible rename Fr _ _ _ _ => hF)
              (with_reducible rename News _ _ _ _ => hN)
              (with_reducible rename Frag.In _ _ => KX)
              obtain ⟨v83, n83, h83, t83⟩ := Mine.starts_obj KX
              have hz83 : v83.length = 9 := t83.length.symm
              refine Mine.cat_L (xs := zs5 ++ zs6) (ys := v83) hF hN (hN _ (.head _)).1 (hF.keep _ _ h83) (by rw [List.length_append, hz5, hz6, hz83]; exact Nat.le_trans (Nat.add_le_add_right (Nat.add_le_add_left hml 26) 9) (by decide)) ?_
              intro Dp h8 F8 N8 l8
              have hPT := Mine.Texts.app (Mine.Texts.app hzs5 hzs6) t83
              have hPok := Mine.pieces_ok (ms := ms)
              generalize hPTd : Mine.letters.map (fun c => [c]) ++ (ms.map Mine.order).map (·.ending) ++ Mine.starts = PT at hPT hPok
              have hpl : (zs5 ++ zs6 ++ v83).length = 35 + ms.length := by rw [List.length_append, List.length_append, hz5, hz6, hz83]; exact Mine.sum35 _
              generalize hpv : zs5 ++ zs6 ++ v83 = pv at hPT hpl N8 ⊢
              (try dsimp only)
              repeat' (first | (k_unfold; (try dsimp only)) | ((fail_if_success (with_reducible show Mine.Halt _)); k_end; wrow_close) | walk1 | (dsimp only; walk1) | (leave1; walk_say "STEP leave1"; try dsimp only) | fail "no step")
              (try dsimp only)
              (with_reducible rename Fr _ _ _ _ => hF)
              (with_reducible rename News _ _ _ _ => hN)
              (with_reducible rename IntsAre _ _ => hI3)
              (with_reducible rename List Value => ws3)
              obtain ⟨Ds, Dw, hDs, hDw⟩ := Mine.news_two hN
              subst hDs hDw
              obtain ⟨tw0, htw0⟩ := Mine.word_tok hN
              subst htw0
              have hpm : Mine.PiecesMark := .mk
              have hDpw : @LT.lt Nat _ Dp Dw := by
                (with_reducible rename (_ ∧ _ ∧ _ ∧ AllLt Dw _) => lw8)
                exact lw8.1
              have hDws : @LT.lt Nat _ Dw Ds := by
                (with_reducible rename (_ ∧ _ ∧ _ ∧ _ ∧ AllLt Ds _) => lw8)
                exact lw8.1
              have hw3 : ws3.length ≤ 30 := by
                rw [hI3.length, List.length_take]
                exact Nat.le_trans (Nat.min_le_left _ _) (Nat.le_trans (Nat.sub_le _ _) (Nat.min_le_left _ _))
              have hbw : ∀ p ∈ (D2, LCg.lst ys) :: nw, @LT.lt Nat _ p.1 Dw := by
                (with_reducible rename (_ ∧ _ ∧ _ ∧ AllLt Dw _) => lw9)
                exact fun p hp => Mine.ltOf lw9.2.2.2 p (hnw6 _ (.tail _ (hnw5 p hp)))
              refine Mine.Halt.out ?_
              refine' Mine.list_cut2 (σ := List (List Nat) × List Value × List Nat × Tok × Nat) (vs := ws3) (nn := 0) (fun c => (Ds, listOf ws3.toArray 0) :: (Dw, listOf (c.2.1 ++ [Value.str (Mine.S c.2.2.1) c.2.2.2.1]).toArray c.2.2.2.2) :: (Dp, listOf pv.toArray 0) :: (D2, LCg.lst ys) :: nw) (fun _ => []) []
                (fun i c => Mine.Texts c.1 c.2.1 ∧ (∀ x ∈ c.1, Mine.lower x ∧ x.length ≤ 18) ∧ Mine.lower c.2.2.1 ∧ c.2.2.1.length ≤ 18 ∧ c.1.length ≤ i ∧ @LT.lt Nat _ Dp Dw ∧ @LT.lt Nat _ Dw Ds) (fun _ => False) ([], [], [], tw0, 0) rfl ?hl hF ?hN7 ?kk ?start ?turn7 ?brk ?done7
              case hl => exact .head _
              case kk => kst_all
              case brk => intro c u h tk hf; exact hf.elim
              case hN7 =>
                refine Mine.news_sub hN (fun p hp => ?_)
                rcases List.mem_cons.mp hp with rfl | hp
                · exact .head _
                rcases List.mem_cons.mp hp with rfl | hp
                · exact .tail _ (.head _)
                rcases List.mem_cons.mp hp with rfl | hp
                · exact .tail _ (.tail _ (.head _))
                · exact .tail _ (.tail _ (.tail _ (.tail _ (.tail _ (hnw6 _ (.tail _ (hnw5 p hp)))))))
              case start => exact ⟨Mine.Texts.nil, by simp, by intro c hc; simp at hc, by simp, Nat.le_refl _, hDpw, hDws⟩
              case turn7 =>
                clear hF hN
                intro i v c9 u h tk own I hi hv hJ9 hoff hI hown F' N'
                (try dsimp only)
                (try k_fold)
                obtain ⟨wl, wv, lw, tw, nw9⟩ := c9
                obtain ⟨hj1, hj2, hj3, hj4, hj5, hj6, hj7⟩ := hJ9
                (try dsimp only at hj1 hj2 hj3 hj4 hj5 F' N' ⊢)
                try k_fold
                obtain ⟨nm, tn, rfl, hnm⟩ := hI3.at i v hv
                have hoD : ∀ p ∈ own, p.1 ≠ Dw := fun p hp => (hown p hp).elim (fun e => e ▸ (hoff _ (.tail _ (.head _))).symm) (fun e => e ▸ Nat.ne_of_gt hj7)
                have hwl := hj1.length
                have hi3 : i ≤ 63 := Nat.le_trans (Nat.le_of_lt hi) (Nat.le_trans hw3 (by decide))
                refine Mine.words_cut (fun o => (Ds, listOf ws3.toArray 0) :: (Dw, o) :: (Dp, listOf pv.toArray 0) :: (D2, LCg.lst ys) :: nw ++ own) (i + 1) F' ?_ ?_
                · repeat' (first | (k_unfold; (try dsimp only)) | ((fail_if_success (with_reducible show Mine.Halt _)); k_end; wrow_close) | walk1 | (dsimp only; walk1) | (leave1; walk_say "STEP leave1"; try dsimp only) | fail "no step")
                  all_goals (try dsimp only)
                  rotate_left
                  · exact Mine.Halt.out (Mine.words_at (by assumption) (by assumption) hj1 hj2 hj3 hj4 (Nat.le_succ_of_le hj5))
                  · refine Mine.Halt.out ?_
                    (with_reducible rename News _ _ _ _ => hN)
                    have hDwL := hN (Dw, listOf (wv ++ [Value.str (Mine.S lw) tw]).toArray nw9) (by first | exact .head _ | exact .tail _ (.head _))
                    refine Mine.item_neg1 (xs := wv) (x := Value.str (Mine.S lw) tw) ⟨_, hDwL.1, rfl, _, rfl⟩ ?_
                    repeat' (first | (k_unfold; (try dsimp only)) | ((fail_if_success (with_reducible show Mine.Halt _)); k_end; wrow_close) | walk1 | (dsimp only; walk1) | (leave1; walk_say "STEP leave1"; try dsimp only) | fail "no step")
                    all_goals (try dsimp only)
                    · refine Mine.Halt.out ?_
                      (with_reducible rename Fr _ _ _ _ => hF)
                      refine append_K hF (Mine.news_front hN (by first | exact .head _ | exact .tail _ (.head _))) (.head Mine.others_ne) ?_ (by rw [sizeLine_eq, List.size_toArray, List.length_append, List.length_singleton]; exact Mine.le_grow hwl hj5 hi3 (by decide))
                      intro h6 F6 N6
                      rw [List.push_toArray] at N6
                      obtain ⟨t6, ht6⟩ := Mine.last_tok N6
                      subst ht6
                      repeat' (first | (k_unfold; (try dsimp only)) | ((fail_if_success (with_reducible show Mine.Halt _)); k_end; wrow_close) | walk1 | (dsimp only; walk1) | (leave1; walk_say "STEP leave1"; try dsimp only) | fail "no step")
                      (try dsimp only)
                      refine Mine.Halt.out ?_
                      refine Mine.words_at (wl := wl ++ [lw]) (wv := wv ++ [Value.str (Mine.S lw) tw]) (lw := []) (tw := t6) (nn := nw9 + 1) F6 (Mine.news_sub N6 ?_) (Mine.Texts.snoc hj1) ?_ (fun c hc => by cases hc) (Nat.zero_le _) (by rw [List.length_append, List.length_singleton]; exact Nat.succ_le_succ hj5)
                      · intro p hp
                        rcases List.mem_cons.mp hp with rfl | hp
                        · exact .tail _ (Mine.mem_others.mpr ⟨List.mem_append_left _ (.head _), Nat.ne_of_gt hj7⟩)
                        rcases List.mem_cons.mp hp with rfl | hp
                        · exact .head _
                        rcases List.mem_cons.mp hp with rfl | hp
                        · exact .tail _ (Mine.mem_others.mpr ⟨List.mem_append_left _ (.tail _ (.tail _ (.head _))), Nat.ne_of_lt hj6⟩)
                        rcases List.mem_cons.mp hp with rfl | hp
                        · exact .tail _ (Mine.mem_others.mpr ⟨List.mem_append_left _ (.tail _ (.tail _ (.tail _ (.head _)))), Nat.ne_of_lt (hbw _ (.head _))⟩)
                        rcases List.mem_append.mp hp with hp | hp
                        · exact .tail _ (Mine.mem_others.mpr ⟨List.mem_append_left _ (.tail _ (.tail _ (.tail _ (.tail _ hp)))), Nat.ne_of_lt (hbw p (.tail _ hp))⟩)
                        · exact .tail _ (Mine.mem_others.mpr ⟨List.mem_append_right _ hp, hoD p hp⟩)
                      · exact fun x hx => (List.mem_append.mp hx).elim (hj2 x) (fun hx => (List.mem_singleton.mp hx) ▸ ⟨hj3, hj4⟩)
                    · exact Mine.Halt.out (Mine.words_at (by assumption) (by assumption) hj1 hj2 hj3 hj4 (Nat.le_succ_of_le hj5))
                · clear hj1 hj2 hj3 hj4 hj5 hwl F' N'
                  intro wl wv lw tw nw9 h tk F' N' hj1 hj2 hj3 hj4 hj5
                  have hwl := hj1.length
                  (try dsimp only)
                  repeat' (first | (k_unfold; (try dsimp only)) | ((fail_if_success (with_reducible show Mine.Halt _)); k_end; wrow_close) | walk1 | (dsimp only; walk1) | (leave1; walk_say "STEP leave1"; try dsimp only) | fail "no step")
                  all_goals (try dsimp only)
                  (refine Mine.Halt.out ?_
                   (with_reducible rename News _ _ _ _ => hN)
                   have hDwL := hN (Dw, listOf (wv ++ [Value.str (Mine.S lw) tw]).toArray (nw9)) (by first | exact .head _ | exact .tail _ (.head _))
                   refine Mine.item_neg1 (xs := wv) (x := Value.str (Mine.S lw) tw) ⟨_, hDwL.1, rfl, _, rfl⟩ ?_
                   repeat' (first | (k_unfold; (try dsimp only)) | ((fail_if_success (with_reducible show Mine.Halt _)); k_end; wrow_close) | walk1 | (dsimp only; walk1) | (leave1; walk_say "STEP leave1"; try dsimp only) | fail "no step")
                   (try dsimp only)
                   (with_reducible rename News _ _ _ _ => hN)
                   refine Mine.Halt.out ?_
                   refine Mine.len_L (vs := pv) (nn := 0) hN (by first | exact .tail _ (.tail _ (.head _)) | exact .tail _ (Mine.mem_others.mpr ⟨.tail _ (.tail _ (.head _)), Nat.ne_of_lt hj6⟩) | exact .tail _ (Mine.mem_others.mpr ⟨.tail _ (.head _), Nat.ne_of_lt hj6⟩)) (by rw [hpl]; exact Nat.le_trans (Nat.add_le_add_left hml 35) (by decide)) ?_
                   intro t8 k8
                   rw [hpl]
                   repeat' (first | (k_unfold; (try dsimp only)) | ((fail_if_success (with_reducible show Mine.Halt _)); k_end; wrow_close) | walk1 | (dsimp only; walk1) | (leave1; walk_say "STEP leave1"; try dsimp only) | fail "no step")
                   refine Mine.Halt.out ?_
                   refine mod_int' (Mine.ne35 _) ?_
                   repeat' (first | (k_unfold; (try dsimp only)) | ((fail_if_success (with_reducible show Mine.Halt _)); k_end; wrow_close) | walk1 | (dsimp only; walk1) | (leave1; walk_say "STEP leave1"; try dsimp only) | fail "no step")
                   (try dsimp only)
                   refine Mine.Halt.out ?_
                   have hmod1 := Int.fmod_nonneg_of_pos nm (b := ((35 + ms.length : Nat) : Int)) (Mine.pos35 _)
                   have hmod2 := Int.fmod_lt_of_pos nm (b := ((35 + ms.length : Nat) : Int)) (Mine.pos35 _)
                   obtain ⟨pz, hpz⟩ : ∃ v, pv[(nm.fmod ((35 + ms.length : Nat) : Int)).toNat]? = some v := ⟨_, List.getElem?_eq_getElem (by rw [hpl]; exact Mine.lt35 hmod1 hmod2)⟩
                   obtain ⟨z, tz, hz, rfl⟩ := hPT.at hpz
                   obtain ⟨hzo, hzl⟩ := hPok z (List.mem_of_getElem? hz)
                   (with_reducible rename News _ _ _ _ => hN)
                   have hDpL := hN (Dp, listOf pv.toArray 0) (by first | exact .tail _ (.tail _ (.head _)) | exact .tail _ (Mine.mem_others.mpr ⟨.tail _ (.tail _ (.head _)), Nat.ne_of_lt hj6⟩) | exact .tail _ (Mine.mem_others.mpr ⟨.tail _ (.head _), Nat.ne_of_lt hj6⟩))
                   refine item_listL (l := pv) (x := Value.str (Mine.S z) tz) ⟨_, hDpL.1, rfl, _, rfl⟩ hmod1 (Mine.small35 hmod2 hml) hpz ?_
                   repeat' (first | (k_unfold; (try dsimp only)) | ((fail_if_success (with_reducible show Mine.Halt _)); k_end; wrow_close) | walk1 | (dsimp only; walk1) | (leave1; walk_say "STEP leave1"; try dsimp only) | fail "no step")
                   (try dsimp only)
                   (with_reducible rename Fr _ _ _ _ => hF)
                   (with_reducible rename News _ _ _ _ => hN)
                   refine Mine.Halt.out ?_
                   refine ki_setNeg (its := (wv ++ [Value.str (Mine.S lw) tw]).toArray) (n := nw9) (j := wv.length) hF (Mine.news_front hN (by first | exact .head _ | exact .tail _ (.head _))) (by decide) (by decide) (Mine.last_index _ _) (Mine.setL_last _ _ _) (.head Mine.others_ne) ?_
                   intro h7 F7 N7
                   obtain ⟨t2, ht2⟩ := Mine.last_tok N7
                   subst ht2
                   repeat' (first | (k_unfold; (try dsimp only)) | ((fail_if_success (with_reducible show Mine.Halt _)); k_end; wrow_close) | walk1 | (dsimp only; walk1) | (leave1; walk_say "STEP leave1"; try dsimp only) | fail "no step")
                   (try dsimp only)
                   refine Mine.Halt.out (Mine.lc_end (wl, wv, List.take (Int.toNat 18) (lw ++ z), t2, nw9) F7 N7 ?_ ?_ ?_ (by kst_all) (by first | (intro z h1 h2 h3; (try dsimp only [kstB]); (repeat (refine Eq.trans (if_neg (by (first | exact h1 | exact Mine.off_stored h3 (by decide +kernel) | ((fail_if_success (exact Mine.not_stored h3)); exact Mine.sub_stored h3 (by decide +kernel)) | exact h2 _ (.head _) | exact h2 _ (.tail _ (.head _)) | exact h2 _ (.tail _ (.tail _ (.head _))) | exact h2 _ (.tail _ (.tail _ (.tail _ (.head _))))))) ?_)); first | exact if_neg (Mine.not_stored h3) | exact rfl) | (intro z h1 h2 h3; (try simp only [List.forall_mem_cons, List.not_mem_nil, false_implies, implies_true, and_true, ne_eq] at h2); (try simp only [List.contains_cons, List.contains_nil, Bool.or_false, Bool.or_eq_false_iff, beq_eq_false_iff_ne, ne_eq] at h3); simp [kstB, h1, h2, h3])) ⟨hj1, hj2, Mine.lower_cut hj3 hzo, Mine.len_cut, hj5, hj6, hj7⟩)
                   · exact fun p hp => .tail _ (Mine.mem_others.mpr ⟨List.mem_append_right _ hp, hoD p hp⟩)
                   · intro p hp
                     rcases List.mem_cons.mp hp with rfl | hp
                     · exact .tail _ (Mine.mem_others.mpr ⟨List.mem_append_left _ (.head _), Nat.ne_of_gt hj7⟩)
                     rcases List.mem_cons.mp hp with rfl | hp
                     · exact .head _
                     rcases List.mem_cons.mp hp with rfl | hp
                     · exact .tail _ (Mine.mem_others.mpr ⟨List.mem_append_left _ (.tail _ (.tail _ (.head _))), Nat.ne_of_lt hj6⟩)
                     · exact .tail _ (Mine.mem_others.mpr ⟨List.mem_append_left _ (.tail _ (.tail _ (.tail _ hp))), Nat.ne_of_lt (hbw p hp)⟩)
                   · intro p hp hm
                     have hm := List.mem_singleton.mp hm
                     rcases List.mem_cons.mp hp with rfl | hp
                     · exact hoff _ (.head _) hm
                     rcases List.mem_cons.mp hp with rfl | hp
                     · exact hoff _ (.tail _ (.head _)) hm
                     · exact hoff p (.tail _ (.tail _ hp)) hm)
              case done7 =>
                have hR7 := hj1
                have hl7 := hj2
                have hok7 := hj3
                clear hF hN
                intro c9 u h tk hJ9 F' N'
                (try dsimp only)
                (try k_fold)
                obtain ⟨wl, wv, lw, tw, nw9⟩ := c9
                obtain ⟨hj1, hj2, hj3, hj4, hj5, hj6, hj7⟩ := hJ9
                (try dsimp only at hj1 hj2 hj3 hj4 hj5 F' N' ⊢)
                (try k_fold)
                rw [List.take_of_length_le (Nat.le_of_eq Mine.toNat_sub0.symm)] at hR7
                have hll : l.length ≤ 5 := Nat.le_trans (Nat.le_of_eq hl7) hml
                have hjl := Mine.tab_le hok7 hll
                have hgn : (Mine.tabLines l).length ≤ 100 := Nat.le_trans (Nat.le_succ _) (Mine.tab_le2 hll)
                have hread : Mine.tableOf (Mine.tabLines l) = some (ms.map Mine.order) := by rw [Mine.tabLines_read l hok7, hR7]
                have hgl := Mine.tabLines_good l hok7
                have hgr : ∀ r ∈ ms.map Mine.order, Mine.GoodRule r := fun r hr => let ⟨k, _, e⟩ := List.mem_map.mp hr; e ▸ (Mine.order_ok k).toGoodRule
                have hge : ∀ r ∈ ms.map Mine.order, r.ending ≠ [] := fun r hr => let ⟨k, _, e⟩ := List.mem_map.mp hr; e ▸ (Mine.order_ok k).ne
                have hrl : (ms.map Mine.order).length ≤ 1000 := by rw [List.length_map]; exact Nat.le_trans hml (by decide)
                have hTx := Mine.Texts.snoc (z := lw) (t := tw) hj1
                have hTl : ∀ x ∈ wl ++ [lw], Mine.lower x ∧ x.length ≤ 18 := fun x hx => (List.mem_append.mp hx).elim (hj2 x) (fun hx => (List.mem_singleton.mp hx) ▸ ⟨hj3, hj4⟩)
                repeat' (first | (k_unfold; (try dsimp only)) | ((fail_if_success (with_reducible show Mine.Halt _)); k_end; wrow_close) | walk1 | (dsimp only; walk1) | (leave1; walk_say "STEP leave1"; try dsimp only) | fail "no step")
                (try dsimp only)
                refine Mine.Halt.out ?_
                refine' Mine.c_class (A₁ := Mine.tabLines l) ?kB ?kF ?kX ?kN ?kT ?kK ?kd ?ku (Mine.tabLines_ne l) (fun p hp => (hgl p hp).n) (fun p hp => Nat.le_trans (hgl p hp).l (by decide)) (fun p hp => (hgl p hp).g) hgn (Nat.le_trans hjl (by decide)) ?g1 ?g2
                case kB => k_asm
                case kF => k_asm
                case kX => k_asm
                case kN => k_asm
                case kT => k_asm
                case kK => first | exact rfl | assumption
                case kd => ktr_room
                case ku => ktr_units
                case g2 => intro hno; rw [hread] at hno; cases hno
                case g1 =>
                  intro rs hrs x nw8 h9 tk9 F9 N9 hk9 hSt
                  rw [hread] at hrs
                  obtain rfl := Option.some.inj hrs
                  (try dsimp only)
                  repeat' (first | (k_unfold; (try dsimp only)) | ((fail_if_success (with_reducible show Mine.Halt _)); k_end; wrow_close) | walk1 | (dsimp only; walk1) | (leave1; walk_say "STEP leave1"; try dsimp only) | fail "no step")
                  (try dsimp only)
                  refine Mine.Halt.out ?_
                  (with_reducible rename Fr _ _ _ _ => hF)
                  (with_reducible rename News _ _ _ _ => hN)
                  have hDwL := hN _ (hk9 _ (.tail _ (.head _)))
                  have hwl8 := hj1.length
                  have hi38 := hI3.length
                  refine kmk_slice_lit (s := ⟨_, _, _, _, _⟩) (zs := (wv ++ [Value.str (Mine.S lw) tw]).take 3) hF hN ⟨_, hDwL.1, rfl, _, rfl⟩ .none (.int _ _) ?slc ?_ (by with_unfolding_all rfl) (by intro _; with_unfolding_all rfl) (by rw [sizeLine_eq, List.size_toArray, List.length_append, List.length_singleton]; exact Mine.le_grow hwl8 hj5 (Nat.le_trans hw3 (by decide)) (by decide))
                  case slc =>
                    have e3 := slicePick_upto' (wv ++ [Value.str (Mine.S lw) tw]).toArray 3
                    exact (congrArg Array.toList e3).trans (by simp)
                  intro Dz h7 F7 N7 lz
                  (try dsimp only)
                  repeat' (first | (k_unfold; (try dsimp only)) | ((fail_if_success (with_reducible show Mine.Halt _)); k_end; wrow_close) | walk1 | (dsimp only; walk1) | (leave1; walk_say "STEP leave1"; try dsimp only) | fail "no step")
                  (try dsimp only)
                  (with_reducible rename Fr _ _ _ _ => hF)
                  (with_reducible rename News _ _ _ _ => hN)
                  refine Mine.Halt.out ?_
                  refine' Mine.list_cut2 (σ := Unit) (vs := (wv ++ [Value.str (Mine.S lw) tw]).take 3) (nn := 0) (fun _ => (Dz, listOf ((wv ++ [Value.str (Mine.S lw) tw]).take 3).toArray 0) :: nw8) (fun _ => []) [Str.ofString "due"] (fun i _ => True) (fun _ => False) () rfl (.head _) hF hN ?kk trivial ?turn8 ?brk ?done8
                  case kk => kst_all
                  case brk => intro c u h tk hf; exact hf.elim
                  case turn8 =>
                    clear hF hN
                    intro i v c9 u h tk own I hi hv hJ9 hoff hI hown F' N'
                    (try dsimp only)
                    (try k_fold)
                    (try dsimp only at F' N' ⊢)
                    rw [List.getElem?_take] at hv
                    have hv2 : (wv ++ [Value.str (Mine.S lw) tw])[i]? = some v := by
                      split at hv
                      · exact hv
                      · cases hv
                    obtain ⟨z, tz, hz, rfl⟩ := hTx.at hv2
                    obtain ⟨hzo, hzl⟩ := hTl z (List.mem_of_getElem? hz)
                    have hSt2 := hSt
                    obtain ⟨sd, kh, kt, rd, snn, so, skvs, hx, hd9, hrd, hT⟩ := hSt2
                    have hup : ∀ p ∈ nw8, p ∈ (Dz, listOf ((wv ++ [Value.str (Mine.S lw) tw]).take 3).toArray 0) :: nw8 ++ own := fun p hp => List.mem_append_left _ (.tail _ hp)
                    replace N' := Mine.news_dup (Mine.news_dup N' hd9 hup) hx (fun p hp => .tail _ (hup p hp))
                    have hup2 : ∀ p ∈ nw8, p ∈ (x, instObj 78 sd) :: (sd, dictOf [{ hash := kh, key := .str (Str.ofString "rules") kt, val := .ref rd }] snn) :: (Dz, listOf ((wv ++ [Value.str (Mine.S lw) tw]).take 3).toArray 0) :: nw8 ++ own := fun p hp => .tail _ (.tail _ (hup p hp))
                    have hlt8 : ∀ p ∈ nw8, @LT.lt Nat _ p.1 Dz := lz
                    have hSt3 := hSt.more hup2
                    try k_fold
                    repeat' (first | (k_unfold; (try dsimp only)) | ((fail_if_success (with_reducible show Mine.Halt _)); k_end; wrow_close) | walk1 | (dsimp only; walk1) | (leave1; walk_say "STEP leave1"; try dsimp only) | fail "no step")
                    (try dsimp only)
                    refine Mine.Halt.out ?_
                    refine IfExp_ ?_
                    repeat' (first | (k_unfold; (try dsimp only)) | ((fail_if_success (with_reducible show Mine.Halt _)); k_end; wrow_close) | walk1 | (dsimp only; walk1) | (leave1; walk_say "STEP leave1"; try dsimp only) | fail "no step")
                    all_goals (try dsimp only)
                    rotate_left
                    · refine Mine.Halt.out ?_
                      (with_reducible rename (decide (z = []) = false) => hz0)
                      have hz0 : z ≠ [] := by simpa using hz0
                      have hbz := Mine.bare_len z
                      refine' Mine.c_law_stemmed 19 (lo := D2) (rs := ms.map Mine.order) (vs := ys) ?kB ?kF ?kX ?kN ?kT ?kK ?kd ?ku (Nat.lt_of_le_of_lt (Nat.le_trans hbz hzl) (by decide)) (by decide) (hup2 _ (hk9 _ (.tail _ (.tail _ (.tail _ (.head _)))))) (hys.mono fun p hp => hup2 _ (hk9 _ (.tail _ (.tail _ (.tail _ (.tail _ hp)))))) hgr hrl ?kr
                      case kB => k_asm
                      case kF => k_asm
                      case kX => k_asm
                      case kN => k_asm
                      case kT => k_asm
                      case kK => first | exact rfl | assumption
                      case kd => ktr_room
                      case ku => ktr_units
                      case kr =>
                        intro v8 h8 tk8 hs8 hn8 F8 N8
                        cases hst : Mine.stemmed (ms.map Mine.order) 19 (Mine.bare z) true with
                        | none =>
                          obtain rfl := hn8 hst
                          (try dsimp only)
                          repeat' (first | (k_unfold; (try dsimp only)) | ((fail_if_success (with_reducible show Mine.Halt _)); k_end; wrow_close) | walk1 | (dsimp only; walk1) | (leave1; walk_say "STEP leave1"; try dsimp only) | fail "no step")
                          (try dsimp only)
                          exact Mine.Halt.out (Mine.lc_end () (by assumption) (by assumption) (by intro p hp; (try simp only [List.mem_append, List.mem_cons, List.not_mem_nil, or_false, or_assoc] at hp); first | (simp [hp]; done) | (with_reducible refine Or.elim hp (fun hp => ?_) (fun hp => ?_) <;> (first | (simp [hp]; done) | (with_reducible refine Or.elim hp (fun hp => ?_) (fun hp => ?_) <;> (first | (simp [hp]; done) | (with_reducible refine Or.elim hp (fun hp => ?_) (fun hp => ?_) <;> (first | (simp [hp]; done) | (with_reducible refine Or.elim hp (fun hp => ?_) (fun hp => ?_) <;> ((simp [hp]; done)))))))))) (by intro p hp; (try simp only [List.mem_append, List.mem_cons, List.not_mem_nil, or_false, or_assoc] at hp); first | (simp [hp]; done) | (with_reducible refine Or.elim hp (fun hp => ?_) (fun hp => ?_) <;> (first | (simp [hp]; done) | (with_reducible refine Or.elim hp (fun hp => ?_) (fun hp => ?_) <;> (first | (simp [hp]; done) | (with_reducible refine Or.elim hp (fun hp => ?_) (fun hp => ?_) <;> (first | (simp [hp]; done) | (with_reducible refine Or.elim hp (fun hp => ?_) (fun hp => ?_) <;> ((simp [hp]; done)))))))))) (fun p hp hm => hoff p hp (List.mem_singleton.mp hm)) (by kst_all) (by first | (intro z h1 h2 h3; (try dsimp only [kstB]); (repeat (refine Eq.trans (if_neg (by (first | exact h1 | exact Mine.off_stored h3 (by decide +kernel) | ((fail_if_success (exact Mine.not_stored h3)); exact Mine.sub_stored h3 (by decide +kernel)) | exact h2 _ (.head _) | exact h2 _ (.tail _ (.head _)) | exact h2 _ (.tail _ (.tail _ (.head _))) | exact h2 _ (.tail _ (.tail _ (.tail _ (.head _))))))) ?_)); first | exact if_neg (Mine.not_stored h3) | exact rfl) | (intro z h1 h2 h3; (try simp only [List.forall_mem_cons, List.not_mem_nil, false_implies, implies_true, and_true, ne_eq] at h2); (try simp only [List.contains_cons, List.contains_nil, Bool.or_false, Bool.or_eq_false_iff, beq_eq_false_iff_ne, ne_eq] at h3); simp [kstB, h1, h2, h3])) trivial)
                        | some y =>
                          obtain ⟨t8, rfl⟩ := hs8 y hst
                          (try dsimp only)
                          repeat' (first | (k_unfold; (try dsimp only)) | ((fail_if_success (with_reducible show Mine.Halt _)); k_end; wrow_close) | walk1 | (dsimp only; walk1) | (leave1; walk_say "STEP leave1"; try dsimp only) | fail "no step")
                          (try dsimp only)
                          refine Mine.Halt.out ?_
                          refine' Mine.c_stem (rs := ms.map Mine.order) (n := 19) (y := y) ?kB ?kF ?kX ?kN ?kT ?kK ?kd ?ku hSt3 hzo (Nat.le_trans hzl (by decide)) hgr hge hrl (.inr ⟨hz0, hst⟩) ?kr
                          case kB => k_asm
                          case kF => k_asm
                          case kX => k_asm
                          case kN => k_asm
                          case kT => k_asm
                          case kK => first | exact rfl | assumption
                          case kd => ktr_room
                          case ku => ktr_units
                          case kr =>
                            intro t7 h7 tk7 F7 N7
                            (try dsimp only)
                            repeat' (first | (k_unfold; (try dsimp only)) | ((fail_if_success (with_reducible show Mine.Halt _)); k_end; wrow_close) | walk1 | (dsimp only; walk1) | (leave1; walk_say "STEP leave1"; try dsimp only) | fail "no step")
                            all_goals (try dsimp only)
                            exact Mine.Halt.out (Mine.lc_end () (by assumption) (by assumption) (by intro p hp; (try simp only [List.mem_append, List.mem_cons, List.not_mem_nil, or_false, or_assoc] at hp); first | (simp [hp]; done) | (with_reducible refine Or.elim hp (fun hp => ?_) (fun hp => ?_) <;> (first | (simp [hp]; done) | (with_reducible refine Or.elim hp (fun hp => ?_) (fun hp => ?_) <;> (first | (simp [hp]; done) | (with_reducible refine Or.elim hp (fun hp => ?_) (fun hp => ?_) <;> (first | (simp [hp]; done) | (with_reducible refine Or.elim hp (fun hp => ?_) (fun hp => ?_) <;> ((simp [hp]; done)))))))))) (by intro p hp; (try simp only [List.mem_append, List.mem_cons, List.not_mem_nil, or_false, or_assoc] at hp); first | (simp [hp]; done) | (with_reducible refine Or.elim hp (fun hp => ?_) (fun hp => ?_) <;> (first | (simp [hp]; done) | (with_reducible refine Or.elim hp (fun hp => ?_) (fun hp => ?_) <;> (first | (simp [hp]; done) | (with_reducible refine Or.elim hp (fun hp => ?_) (fun hp => ?_) <;> (first | (simp [hp]; done) | (with_reducible refine Or.elim hp (fun hp => ?_) (fun hp => ?_) <;> ((simp [hp]; done)))))))))) (fun p hp hm => hoff p hp (List.mem_singleton.mp hm)) (by kst_all) (by first | (intro z h1 h2 h3; (try dsimp only [kstB]); (repeat (refine Eq.trans (if_neg (by (first | exact h1 | exact Mine.off_stored h3 (by decide +kernel) | ((fail_if_success (exact Mine.not_stored h3)); exact Mine.sub_stored h3 (by decide +kernel)) | exact h2 _ (.head _) | exact h2 _ (.tail _ (.head _)) | exact h2 _ (.tail _ (.tail _ (.head _))) | exact h2 _ (.tail _ (.tail _ (.tail _ (.head _))))))) ?_)); first | exact if_neg (Mine.not_stored h3) | exact rfl) | (intro z h1 h2 h3; (try simp only [List.forall_mem_cons, List.not_mem_nil, false_implies, implies_true, and_true, ne_eq] at h2); (try simp only [List.contains_cons, List.contains_nil, Bool.or_false, Bool.or_eq_false_iff, beq_eq_false_iff_ne, ne_eq] at h3); simp [kstB, h1, h2, h3])) trivial)
                    · (with_reducible rename (decide (z = []) = true) => hz0)
                      have hz0 : z = [] := by simpa using hz0
                      refine Mine.Halt.out ?_
                      refine' Mine.c_stem (rs := ms.map Mine.order) (n := 19) (y := []) ?kB ?kF ?kX ?kN ?kT ?kK ?kd ?ku hSt3 hzo (Nat.le_trans hzl (by decide)) hgr hge hrl (.inl ⟨hz0, rfl⟩) ?kr
                      case kB => k_asm
                      case kF => k_asm
                      case kX => k_asm
                      case kN => k_asm
                      case kT => k_asm
                      case kK => first | exact rfl | assumption
                      case kd => ktr_room
                      case ku => ktr_units
                      case kr =>
                        intro t7 h7 tk7 F7 N7
                        (try dsimp only)
                        repeat' (first | (k_unfold; (try dsimp only)) | ((fail_if_success (with_reducible show Mine.Halt _)); k_end; wrow_close) | walk1 | (dsimp only; walk1) | (leave1; walk_say "STEP leave1"; try dsimp only) | fail "no step")
                        all_goals (try dsimp only)
                        exact Mine.Halt.out (Mine.lc_end () (by assumption) (by assumption) (by intro p hp; (try simp only [List.mem_append, List.mem_cons, List.not_mem_nil, or_false, or_assoc] at hp); first | (simp [hp]; done) | (with_reducible refine Or.elim hp (fun hp => ?_) (fun hp => ?_) <;> (first | (simp [hp]; done) | (with_reducible refine Or.elim hp (fun hp => ?_) (fun hp => ?_) <;> (first | (simp [hp]; done) | (with_reducible refine Or.elim hp (fun hp => ?_) (fun hp => ?_) <;> (first | (simp [hp]; done) | (with_reducible refine Or.elim hp (fun hp => ?_) (fun hp => ?_) <;> ((simp [hp]; done)))))))))) (by intro p hp; (try simp only [List.mem_append, List.mem_cons, List.not_mem_nil, or_false, or_assoc] at hp); first | (simp [hp]; done) | (with_reducible refine Or.elim hp (fun hp => ?_) (fun hp => ?_) <;> (first | (simp [hp]; done) | (with_reducible refine Or.elim hp (fun hp => ?_) (fun hp => ?_) <;> (first | (simp [hp]; done) | (with_reducible refine Or.elim hp (fun hp => ?_) (fun hp => ?_) <;> (first | (simp [hp]; done) | (with_reducible refine Or.elim hp (fun hp => ?_) (fun hp => ?_) <;> ((simp [hp]; done)))))))))) (fun p hp hm => hoff p hp (List.mem_singleton.mp hm)) (by kst_all) (by first | (intro z h1 h2 h3; (try dsimp only [kstB]); (repeat (refine Eq.trans (if_neg (by (first | exact h1 | exact Mine.off_stored h3 (by decide +kernel) | ((fail_if_success (exact Mine.not_stored h3)); exact Mine.sub_stored h3 (by decide +kernel)) | exact h2 _ (.head _) | exact h2 _ (.tail _ (.head _)) | exact h2 _ (.tail _ (.tail _ (.head _))) | exact h2 _ (.tail _ (.tail _ (.tail _ (.head _))))))) ?_)); first | exact if_neg (Mine.not_stored h3) | exact rfl) | (intro z h1 h2 h3; (try simp only [List.forall_mem_cons, List.not_mem_nil, false_implies, implies_true, and_true, ne_eq] at h2); (try simp only [List.contains_cons, List.contains_nil, Bool.or_false, Bool.or_eq_false_iff, beq_eq_false_iff_ne, ne_eq] at h3); simp [kstB, h1, h2, h3])) trivial)
                  case done8 =>
                    clear hF hN
                    intro c9 u h tk hJ9 F' N'
                    (try dsimp only)
                    (try k_fold)
                    (try dsimp only at F' N' ⊢)
                    (try k_fold)
                    repeat' (first | (k_unfold; (try dsimp only)) | ((fail_if_success (with_reducible show Mine.Halt _)); k_end; wrow_close) | walk1 | (dsimp only; walk1) | (leave1; walk_say "STEP leave1"; try dsimp only) | fail "no step"))

end
theorem PySem.Challenge.cw_iv0074_01_holds : PySem.Challenge.rw_iv0074_01.Holds := by
  exact Mine.law
