import PyProof.Rows.All
import Wide.All
import OpenK.AllK
import Wide.FinOn
import Lean
import PySem.Challenge.RW_da0006_02
/-
da0006-02: the law of _splitext. Parts: plain facts on texts (HP); contracts of the two defs, walked once each (HB, HC, HD);
a rule for a comprehension over a text whose test fails at every sign (HE); the calls (HF); a turn of the law's loop in plain
lists (HG); the loops (HI .. HM); the head and the end (HN).
-/
open PySem PySem.W PyProof.Rows PySem.Calls
set_option Elab.async false
set_option maxRecDepth 100000
set_option maxHeartbeats 8000000
set_option linter.unusedVariables false
-- part HA
section
namespace Mine
open_top hd for PySem.Challenge.rw_da0006_02
end Mine
end
-- part HP
section
namespace Mine
/-- the signs of a text -/
abbrev cs (x : Str) : List Nat := x.cps.toList
theorem cs_len (x : Str) : (cs x).length = x.length := by simp [Str.length]
theorem cs_ext {x y : Str} (h : cs x = cs y) : x = y := Str.ext' (by simpa using congrArg List.toArray h)
theorem cs_append (x y : Str) : cs (x ++ y) = cs x ++ cs y := by simp [cs, Str.cps_append]
theorem cs_mk (l : List Nat) : cs ⟨l.toArray⟩ = l := rfl
theorem dot_is : Str.ofString "." = ⟨#[46]⟩ := by decide +kernel
theorem slash_is : Str.ofString "/" = ⟨#[47]⟩ := by decide +kernel
theorem back_is : Str.ofString "\\" = ⟨#[92]⟩ := by decide +kernel
theorem both_is : Str.ofString "/\\" = ⟨#[47, 92]⟩ := by decide +kernel
theorem none_is : Str.ofString "" = ⟨#[]⟩ := by decide +kernel

/- slices -/
theorem slice_to {x : Str} {k : Int} (h0 : 0 ≤ k) (h : k ≤ x.length) : cs (Txt.slice x none (some k)) = (cs x).take k.toNat := by
  have := StrLaws.sliceText_to (x := x) (j := k) ⟨h0, by rw [cs_len]; exact h⟩
  rw [show Txt.slice x none (some k) = StrLaws.sliceText x none (some k) from rfl, this]
  simp
theorem slice_from {x : Str} {k : Int} (h0 : 0 ≤ k) (h : k ≤ x.length) : cs (Txt.slice x (some k) none) = (cs x).drop k.toNat := by
  have := StrLaws.sliceText_from (x := x) (i := k) ⟨h0, by rw [cs_len]; exact h⟩
  rw [show Txt.slice x (some k) none = StrLaws.sliceText x (some k) none from rfl, this, cs_mk]
  apply List.take_of_length_le
  simp [Str.length] at h ⊢
  omega
theorem slice_past {x : Str} {k : Int} (h : k = x.length) : Txt.slice x (some k) (some (k + 1)) = Txt.slice x (some k) (some k) := by
  unfold Txt.slice
  have e : Builtin.Str.strSliceIndices (some k) (some (k + 1)) 1 x.length = Builtin.Str.strSliceIndices (some k) (some k) 1 x.length := by
    subst h
    unfold Builtin.Str.strSliceIndices
    have a : ¬ ((x.length : Int) + 1 < 0) := by omega
    have b : ¬ ((x.length : Int) < 0) := by omega
    have c : max (0 : Int) (min ((x.length : Int) + 1) x.length) = x.length := by omega
    have d : max (0 : Int) (min (x.length : Int) x.length) = x.length := by omega
    simp only [a, b, if_false, c, d]
    simp
  rw [e]
theorem slice_at {x : Str} {k : Int} (h0 : 0 ≤ k) (h : k ≤ x.length) : cs (Txt.slice x (some k) (some (k + 1))) = ((cs x).drop k.toNat).take 1 := by
  by_cases e : k = x.length
  · rw [slice_past e]
    have := StrLaws.sliceText_plain (x := x) (i := k) (j := k) ⟨h0, Int.le_refl _, by rw [cs_len]; exact h⟩
    rw [show Txt.slice x (some k) (some k) = StrLaws.sliceText x (some k) (some k) from rfl, this, cs_mk]
    have : (cs x).drop k.toNat = [] := List.drop_eq_nil_of_le (by rw [cs_len]; omega)
    rw [this]; simp
  · have := StrLaws.sliceText_plain (x := x) (i := k) (j := k + 1) ⟨h0, by omega, by rw [cs_len]; omega⟩
    rw [show Txt.slice x (some k) (some (k + 1)) = StrLaws.sliceText x (some k) (some (k + 1)) from rfl, this, cs_mk]
    have : (k + 1 - k).toNat = 1 := by omega
    rw [this]
theorem slice_dot {x : Str} {k : Int} (h0 : 0 ≤ k) (h : k ≤ x.length) : (Txt.slice x (some k) (some (k + 1)) == Str.ofString ".") = true ↔ (cs x)[k.toNat]? = some 46 := by
  rw [beq_iff_eq, ← StrLaws.take1_drop, beq_iff_eq, ← slice_at h0 h]
  constructor
  · intro e; rw [e, dot_is]
  · intro e; apply cs_ext; rw [e, dot_is]
theorem slice_ndot {x : Str} {k : Int} (h0 : 0 ≤ k) (h : k ≤ x.length) : (Txt.slice x (some k) (some (k + 1)) != Str.ofString ".") = true ↔ (cs x)[k.toNat]? ≠ some 46 := by
  have := slice_dot h0 h
  rw [bne_iff_ne, ne_eq, ← beq_iff_eq, this]

/- where a sign is found last -/
/-- si is the last place of a sign with p in l, or -1 -/
def Last (p : Nat → Bool) (l : List Nat) (si : Int) : Prop :=
  (si = -1 ∧ ∀ c ∈ l, p c = false) ∨ ∃ i : Nat, si = (i : Int) ∧ (∃ c, l[i]? = some c ∧ p c = true) ∧ ∀ k c, i < k → l[k]? = some c → p c = false
theorem last_rfind (x : Str) (c : Nat) : Last (fun d => d == c) (cs x) (Txt.rfind x ⟨#[c]⟩) := by
  rcases StrLaws.last_spec x ⟨#[c]⟩ with ⟨h, hn⟩ | ⟨i, h, hi, hn⟩
  · refine .inl ⟨by unfold Txt.rfind; rw [h], fun d hd => ?_⟩
    obtain ⟨j, hj⟩ := List.getElem?_of_mem hd
    cases e : (d == c) with
    | false => exact e
    | true =>
      rw [beq_iff_eq.mp e] at hj
      exact absurd ((StrLaws.subAt_one x c j).mpr hj) (hn j)
  · refine .inr ⟨i, by unfold Txt.rfind; rw [h], ⟨c, (StrLaws.subAt_one x c i).mp hi, by simp⟩, fun k d hk hd => ?_⟩
    cases e : (d == c) with
    | false => exact e
    | true =>
      rw [beq_iff_eq.mp e] at hd
      exact absurd ((StrLaws.subAt_one x c k).mpr hd) (hn k hk)
theorem last_max {p q : Nat → Bool} {l : List Nat} {a b : Int} (ha : Last p l a) (hb : Last q l b) : Last (fun c => p c || q c) l (max a b) := by
  have noA : ∀ (k : Nat) c, a < (k : Int) → l[k]? = some c → p c = false := by
    intro k c hk hc
    rcases ha with ⟨rfl, h⟩ | ⟨i, rfl, _, h⟩
    · exact h c (List.mem_of_getElem? hc)
    · exact h k c (by omega) hc
  have noB : ∀ (k : Nat) c, b < (k : Int) → l[k]? = some c → q c = false := by
    intro k c hk hc
    rcases hb with ⟨rfl, h⟩ | ⟨i, rfl, _, h⟩
    · exact h c (List.mem_of_getElem? hc)
    · exact h k c (by omega) hc
  have no : ∀ (k : Nat) c, max a b < (k : Int) → l[k]? = some c → (p c || q c) = false := fun k c hk hc => by
    rw [noA k c (by omega) hc, noB k c (by omega) hc]; rfl
  by_cases h : b ≤ a
  · rcases ha with ⟨rfl, h1⟩ | ⟨i, rfl, ⟨c, hc, hp⟩, h1⟩
    · refine .inl ⟨?_, ?_⟩
      · rcases hb with ⟨rfl, _⟩ | ⟨i, rfl, _⟩ <;> omega
      · intro c hc
        obtain ⟨j, hj⟩ := List.getElem?_of_mem hc
        exact no j c (by omega) hj
    · exact .inr ⟨i, by omega, ⟨c, hc, by simp [hp]⟩, fun k d hk hd => no k d (by omega) hd⟩
  · rcases hb with ⟨rfl, h1⟩ | ⟨i, rfl, ⟨c, hc, hp⟩, h1⟩
    · rcases ha with ⟨rfl, _⟩ | ⟨i, rfl, _⟩ <;> omega
    · exact .inr ⟨i, by omega, ⟨c, hc, by simp [hp]⟩, fun k d hk hd => no k d (by omega) hd⟩
theorem last_range {p : Nat → Bool} {l : List Nat} {a : Int} (h : Last p l a) : -1 ≤ a ∧ a < l.length := by
  rcases h with ⟨rfl, _⟩ | ⟨i, rfl, ⟨c, hc, _⟩, _⟩
  · exact ⟨by omega, by omega⟩
  · have := (List.getElem?_eq_some_iff.mp hc).1
    exact ⟨by omega, by omega⟩

/- what _splitext gives -/
/-- (r, e) is the parting of l: at the last dot, if it lies behind the last separator and a sign that is no dot lies between them; else all of l, and nothing -/
def Parted (sep : Nat → Bool) (l r e : List Nat) : Prop := ∃ si di : Int, Last sep l si ∧ Last (fun d => d == 46) l di ∧
  ((si < di ∧ (∃ j : Nat, si < j ∧ (j : Int) < di ∧ l[j]? ≠ some 46) ∧ r = l.take di.toNat ∧ e = l.drop di.toNat) ∨
   ((∀ j : Nat, si < j → (j : Int) < di → l[j]? = some 46) ∧ r = l ∧ e = []))

/- pieces between dots -/
def joinD : List (List Nat) → List Nat
  | [] => []
  | [p] => p
  | p :: q :: r => p ++ 46 :: joinD (q :: r)
theorem joinD_cons (p : List Nat) {r : List (List Nat)} (h : r ≠ []) : joinD (p :: r) = p ++ 46 :: joinD r := by
  cases r with
  | nil => exact absurd rfl h
  | cons q r => rfl
theorem joinD_append : ∀ {ps qs : List (List Nat)}, ps ≠ [] → qs ≠ [] → joinD (ps ++ qs) = joinD ps ++ 46 :: joinD qs
  | [], _, h, _ => absurd rfl h
  | [p], qs, _, h => by rw [List.singleton_append, joinD_cons p h]; rfl
  | p :: q :: r, qs, _, h => by
    have ih := joinD_append (ps := q :: r) (qs := qs) (by simp) h
    show joinD (p :: (q :: r ++ qs)) = joinD (p :: q :: r) ++ 46 :: joinD qs
    rw [joinD_cons p (by simp), ih, joinD_cons p (by simp)]
    simp
theorem joinD_length : ∀ ps : List (List Nat), ps.length ≤ (joinD ps).length + 1
  | [] => by simp
  | [p] => by simp
  | p :: q :: r => by
    have ih := joinD_length (q :: r)
    rw [joinD_cons p (by simp)]
    simp only [List.length_cons, List.length_append] at ih ⊢
    omega
theorem join_cs : ∀ ps : List Str, cs (Str.join ⟨#[46]⟩ ps) = joinD (ps.map cs)
  | [] => rfl
  | [p] => rfl
  | p :: q :: r => by
    have ih := join_cs (q :: r)
    show cs (p ++ ⟨#[46]⟩ ++ Str.join ⟨#[46]⟩ (q :: r)) = _
    rw [cs_append, cs_append, ih]
    simp only [List.map_cons]
    rw [joinD_cons (cs p) (by simp)]
    simp [cs]

theorem split_join (y : Str) : joinD ((Txt.split y (Str.ofString ".")).map cs) = cs y := by
  rw [dot_is, ← join_cs, StrLaws.join_split]
theorem split_dotfree (y : Str) : ∀ p ∈ (Txt.split y (Str.ofString ".")).map cs, 46 ∉ p := by
  intro p hp
  obtain ⟨a, ha, rfl⟩ := List.mem_map.mp hp
  rw [dot_is] at ha
  exact StrLaws.split_free y 46 a ha
theorem split_ne (y : Str) : Txt.split y (Str.ofString ".") ≠ [] := by
  unfold Txt.split
  split
  · simp
  · split
    · simp
    · rw [StrLaws.partsBetween_eq]
      obtain ⟨p, r, e⟩ := StrLaws.partsFrom_ne y (Str.ofString ".").length 0 (Builtin.Str.occurrences y (Str.ofString ".") 0 y.length (y.length + 1))
      rw [e]; simp
theorem split_len (y : Str) : (Txt.split y (Str.ofString ".")).length ≤ y.length + 1 := by
  have := joinD_length ((Txt.split y (Str.ofString ".")).map cs)
  rw [split_join, List.length_map, cs_len] at this
  exact this

/-- what _law_endings finds: b ends at the last separator; from b to k dots alone; behind k no dot stands first; the pieces -/
structure Found (sep : Nat → Bool) (l : List Nat) (b k : Nat) (ps : List (List Nat)) : Prop where
  bk : b ≤ k
  kl : k ≤ l.length
  sepAt : b = 0 ∨ ∃ c, l[b - 1]? = some c ∧ sep c = true
  noSep : ∀ i c, b ≤ i → l[i]? = some c → sep c = false
  dots : ∀ i, b ≤ i → i < k → l[i]? = some 46
  stop : l[k]? ≠ some 46
  ne : ps ≠ []
  join : joinD ps = l.drop k
  free : ∀ p ∈ ps, 46 ∉ p

theorem prefix_get {l a t : List Nat} (h : l = a ++ t) {i : Nat} (hi : i < a.length) : a[i]? = l[i]? := by
  rw [h, List.getElem?_append_left hi]

/-- the last separator of a prefix that reaches k -/
theorem Found.lastSep {sep : Nat → Bool} {l : List Nat} {b k : Nat} {ps : List (List Nat)} (H : Found sep l b k ps) {a t : List Nat} (e : l = a ++ t) (hk : k ≤ a.length) {si : Int} (hs : Last sep a si) : si = (b : Int) - 1 := by
  rcases hs with ⟨rfl, h⟩ | ⟨i, rfl, ⟨c, hc, hp⟩, h⟩
  · rcases H.sepAt with rfl | ⟨c, hc, hp⟩
    · rfl
    · by_cases hb : b = 0
      · subst hb; rfl
      · have : a[b - 1]? = some c := by rw [prefix_get e (by have := H.bk; omega)]; exact hc
        rw [h c (List.mem_of_getElem? this)] at hp
        cases hp
  · have hi : i < a.length := (List.getElem?_eq_some_iff.mp hc).1
    have hib : i < b := by
      by_cases hh : i < b
      · exact hh
      · rw [prefix_get e hi] at hc
        rw [H.noSep i c (by omega) hc] at hp
        cases hp
    rcases H.sepAt with rfl | ⟨d, hd, hq⟩
    · omega
    · by_cases hh : i = b - 1
      · omega
      · have : a[b - 1]? = some d := by rw [prefix_get e (by have := H.bk; omega)]; exact hd
        rw [h (b - 1) d (by omega) this] at hq
        cases hq

theorem last_unique {p : Nat → Bool} {l : List Nat} {i : Nat} {c : Nat} (hc : l[i]? = some c) (hp : p c = true) (h : ∀ k d, i < k → l[k]? = some d → p d = false) {di : Int} (hd : Last p l di) : di = i := by
  rcases hd with ⟨rfl, h'⟩ | ⟨j, rfl, ⟨d, hd, hq⟩, h'⟩
  · rw [h' c (List.mem_of_getElem? hc)] at hp; cases hp
  · by_cases h1 : i < j
    · rw [h j d h1 hd] at hq; cases hq
    · by_cases h2 : j < i
      · rw [h' i c h2 hc] at hp; cases hp
      · omega

/-- a turn of the law's loop: where one piece alone is left -/
theorem turn_last {sep : Nat → Bool} {l : List Nat} {b k : Nat} {p : List Nat} {qs : List (List Nat)} (H : Found sep l b k (p :: qs)) {r e : List Nat} (P : Parted sep (l.take k ++ p) r e) : r = l.take k ++ p ∧ e = [] := by
  obtain ⟨si, di, hs, hd, h | h⟩ := P
  · obtain ⟨_, ⟨j, h1, h2, h3⟩, _⟩ := h
    have ej : ∃ t, l = (l.take k ++ p) ++ t := by
      have : l.drop k = joinD (p :: qs) := H.join.symm
      cases qs with
      | nil => exact ⟨[], by rw [List.append_nil]; conv => lhs; rw [← List.take_append_drop k l, this, show joinD [p] = p from rfl]⟩
      | cons q r =>
        refine ⟨46 :: joinD (q :: r), ?_⟩
        conv => lhs; rw [← List.take_append_drop k l, this, joinD_cons p (by simp)]
        simp
    obtain ⟨t, et⟩ := ej
    have hlen : (l.take k).length = k := by rw [List.length_take]; have := H.kl; omega
    have hsi := H.lastSep et (by rw [List.length_append, hlen]; omega) hs
    -- the last dot lies ahead of k
    have hdk : di < (k : Int) := by
      rcases hd with ⟨rfl, _⟩ | ⟨i, rfl, ⟨c, hc, hp⟩, _⟩
      · omega
      · by_cases hh : i < k
        · omega
        · rw [List.getElem?_append_right (by rw [hlen]; omega)] at hc
          have : c ∈ p := List.mem_of_getElem? hc
          have hc' : c = 46 := by simpa using hp
          rw [hc'] at this
          exact absurd this (H.free p (.head _))
    have hj : (l.take k ++ p)[j]? = some 46 := by
      rw [prefix_get et (by rw [List.length_append, hlen]; omega)]
      exact H.dots j (by omega) (by omega)
    exact absurd hj h3
  · exact ⟨h.2.1, h.2.2⟩

/-- a turn of the law's loop: where two or more are left -/
theorem turn_more {sep : Nat → Bool} {l : List Nat} {b k : Nat} {ps qs : List (List Nat)} {q : List Nat} (hne : ps ≠ []) (H : Found sep l b k (ps ++ q :: qs)) {r e : List Nat} (P : Parted sep (l.take k ++ joinD (ps ++ [q])) r e) :
    r = l.take k ++ joinD ps ∧ e = 46 :: q := by
  have hlen : (l.take k).length = k := by rw [List.length_take]; have := H.kl; omega
  have hjo : joinD (ps ++ [q]) = joinD ps ++ 46 :: q := joinD_append hne (by simp)
  have et : ∃ t, l = (l.take k ++ joinD (ps ++ [q])) ++ t := by
    have hd : l.drop k = joinD (ps ++ q :: qs) := H.join.symm
    cases qs with
    | nil => exact ⟨[], by rw [List.append_nil]; conv => lhs; rw [← List.take_append_drop k l, hd]⟩
    | cons q' r' =>
      refine ⟨46 :: joinD (q' :: r'), ?_⟩
      have : ps ++ q :: q' :: r' = (ps ++ [q]) ++ (q' :: r') := by simp
      conv => lhs; rw [← List.take_append_drop k l, hd, this, joinD_append (by simp) (by simp)]
      simp
  obtain ⟨t, et⟩ := et
  -- the first piece is not empty
  obtain ⟨p, ps', rfl⟩ : ∃ p ps', ps = p :: ps' := by cases ps with | nil => exact absurd rfl hne | cons p r => exact ⟨p, r, rfl⟩
  have hp46 : 46 ∉ p := H.free p (by simp)
  have hdrop : l.drop k = p ++ 46 :: joinD (ps' ++ q :: qs) := by
    rw [← H.join, List.cons_append, joinD_cons p (by simp)]
  obtain ⟨c, p', rfl⟩ : ∃ c p', p = c :: p' := by
    cases p with
    | cons c p' => exact ⟨c, p', rfl⟩
    | nil =>
      have : l[k]? = some 46 := by
        have h0 : (l.drop k)[0]? = some 46 := by rw [hdrop]; rfl
        rw [List.getElem?_drop] at h0
        simpa using h0
      exact absurd this H.stop
  have hc46 : c ≠ 46 := fun h => hp46 (by rw [h]; exact .head _)
  obtain ⟨u, hu⟩ : ∃ u, joinD ((c :: p') :: ps') = c :: u := by
    cases ps' with
    | nil => exact ⟨p', rfl⟩
    | cons a r => exact ⟨p' ++ 46 :: joinD (a :: r), by rw [joinD_cons _ (by simp)]; simp⟩
  have hq46 : 46 ∉ q := H.free q (by simp)
  -- the last dot
  have hat : (l.take k ++ joinD ((c :: p') :: ps' ++ [q]))[k + (joinD ((c :: p') :: ps')).length]? = some 46 := by
    rw [hjo, ← List.append_assoc, List.getElem?_append_right (by rw [List.length_append, hlen]; omega), List.length_append, hlen]
    simp
  have hbeh : ∀ i d, k + (joinD ((c :: p') :: ps')).length < i → (l.take k ++ joinD ((c :: p') :: ps' ++ [q]))[i]? = some d → (d == 46) = false := by
    intro i d hi hd
    rw [hjo, ← List.append_assoc, List.getElem?_append_right (by rw [List.length_append, hlen]; omega), List.length_append, hlen] at hd
    obtain ⟨n, hn⟩ : ∃ n, i - (k + (joinD ((c :: p') :: ps')).length) = n + 1 := ⟨i - (k + (joinD ((c :: p') :: ps')).length) - 1, by omega⟩
    rw [hn, List.getElem?_cons_succ] at hd
    have : d ∈ q := List.mem_of_getElem? hd
    cases e : (d == 46) with
    | false => rfl
    | true => rw [beq_iff_eq.mp e] at this; exact absurd this hq46
  obtain ⟨si, di, hs, hd, h⟩ := P
  have hdi := last_unique hat (by simp) hbeh hd
  have hsi := H.lastSep et (by rw [List.length_append, hlen]; omega) hs
  have hbk := H.bk
  have hul : (joinD ((c :: p') :: ps')).length = u.length + 1 := by rw [hu]; rfl
  have hck : (l.take k ++ joinD ((c :: p') :: ps' ++ [q]))[k]? = some c := by
    rw [hjo, hu, List.getElem?_append_right (by rw [hlen]; omega), hlen]
    simp
  rcases h with ⟨_, _, h1, h2⟩ | ⟨h1, _, _⟩
  · have e0 : di.toNat = (l.take k ++ joinD ((c :: p') :: ps')).length := by rw [List.length_append, hlen]; omega
    rw [e0, hjo, ← List.append_assoc] at h1 h2
    rw [List.take_left'] at h1
    · rw [List.drop_left'] at h2
      · exact ⟨h1, h2⟩
      · rfl
    · rfl
  · have := h1 k (by omega) (by omega)
    rw [hck] at this
    exact absurd (Option.some.inj this) hc46
end Mine
end
-- part HB
section
namespace Mine
/-- the body and the scope of the n-th statement of the top -/
def bodyAt (n : Nat) : List Stmt := match PySem.Challenge.pw_da0006_02.main.body[n]? with
  | some (.FunctionDef _ _ b _ _ _ _ _ _ _) => b
  | _ => []
def scopeAt (n : Nat) : Scope := match PySem.Challenge.pw_da0006_02.main.body[n]? with
  | some (.FunctionDef _ _ _ _ _ _ s _ _ _) => s
  | _ => default
abbrev tup2 (a b : Value) : Obj := { cls := .type "tuple", data := .seq #[a, b] }

theorem last_dot (x : Str) : Last (fun d => d == 46) (cs x) (Txt.rfind x (Str.ofString ".")) := by rw [dot_is]; exact last_rfind x 46
theorem last_slash (x : Str) : Last (fun d => d == 47) (cs x) (Txt.rfind x (Str.ofString "/")) := by rw [slash_is]; exact last_rfind x 47
theorem last_back (x : Str) : Last (fun d => d == 92) (cs x) (Txt.rfind x (Str.ofString "\\")) := by rw [back_is]; exact last_rfind x 92
theorem last_two (x : Str) : Last (fun d => d == 47 || d == 92) (cs x) (if Txt.rfind x (Str.ofString "\\") > Txt.rfind x (Str.ofString "/") then Txt.rfind x (Str.ofString "\\") else Txt.rfind x (Str.ofString "/")) := by
  have h := last_max (last_slash x) (last_back x)
  have e : (if Txt.rfind x (Str.ofString "\\") > Txt.rfind x (Str.ofString "/") then Txt.rfind x (Str.ofString "\\") else Txt.rfind x (Str.ofString "/")) = max (Txt.rfind x (Str.ofString "/")) (Txt.rfind x (Str.ofString "\\")) := by split <;> omega
  rw [e]; exact h
theorem part_cut {sep : Nat → Bool} {x : Str} {si n : Int} (hs : Last sep (cs x) si) (hlt : si < Txt.rfind x (Str.ofString ".")) (h0 : 0 ≤ n) (hc : si + 1 + 1 * n < Txt.rfind x (Str.ofString "."))
    (hne : (Txt.slice x (some (si + 1 + 1 * n)) (some (si + 1 + 1 * n + 1)) != Str.ofString ".") = true) :
    Parted sep (cs x) (cs (Txt.slice x none (some (Txt.rfind x (Str.ofString "."))))) (cs (Txt.slice x (some (Txt.rfind x (Str.ofString "."))) none)) := by
  have hd := last_dot x
  have r1 := last_range hs
  have r2 := last_range hd
  rw [cs_len] at r1 r2
  refine ⟨si, _, hs, hd, .inl ⟨hlt, ⟨(si + 1 + 1 * n).toNat, by omega, by omega, (slice_ndot (by omega) (by omega)).mp hne⟩, slice_to (by omega) (by omega), slice_from (by omega) (by omega)⟩⟩
theorem slice_zero (x : Str) : cs (Txt.slice x none (some 0)) = [] := by rw [slice_to (Int.le_refl _) (by omega)]; rfl
theorem part_pass {sep : Nat → Bool} {x : Str} {si n : Int} {c' : Int → Bool} (hs : Last sep (cs x) si)
    (hp : Passed c' (fun j => if (Txt.slice x (some (si + 1 + 1 * j)) (some (si + 1 + 1 * j + 1)) != Str.ofString ".") = true then true else false) n) (hend : Txt.rfind x (Str.ofString ".") ≤ si + 1 + 1 * n) :
    Parted sep (cs x) (cs x) (cs (Txt.slice x none (some 0))) := by
  have hd := last_dot x
  have r1 := last_range hs
  have r2 := last_range hd
  rw [cs_len] at r1 r2
  refine ⟨si, _, hs, hd, .inr ⟨fun j h1 h2 => ?_, rfl, slice_zero x⟩⟩
  have := (hp ((j : Int) - si - 1) (by omega) (by omega)).2
  have e : si + 1 + 1 * ((j : Int) - si - 1) = j := by omega
  dsimp only at this
  rw [e] at this
  have hb : ¬ (Txt.slice x (some (j : Int)) (some ((j : Int) + 1)) != Str.ofString ".") = true := fun h => by rw [if_pos h] at this; cases this
  have h3 := (not_congr (slice_ndot (x := x) (k := (j : Int)) (by omega) (by omega))).mp hb
  simpa using h3
theorem part_off {sep : Nat → Bool} {x : Str} {si : Int} (hs : Last sep (cs x) si) (h : ¬ si < Txt.rfind x (Str.ofString ".")) : Parted sep (cs x) (cs x) (cs (Txt.slice x none (some 0))) :=
  ⟨si, _, hs, last_dot x, .inr ⟨fun j h1 h2 => by omega, rfl, slice_zero x⟩⟩
local macro_rules | `(tactic| passes_own) => `(tactic| assumption)
theorem splitext_none (w : World) {e1 : Env} {E : Value → Shared → Prop} {Q : Flow → Shared → Prop} {s : Shared} {g : Heap} {L' f : Addr} {cdv : Value} {mg mb : Str → Option Value} {mean : ExcName → Option Value}
   {news : List (Addr × Obj)} {x : Str} {t0 t1 t2 t3 : Tok}
   (X : (hd.heap_39 w.params).In g) (T : Top hd.view_39 (looseW hd.view_39 []) mean mg mb g)
   (F : Fr g L' s.heap (fun y => [(Str.ofString "p", Value.str x t0), (Str.ofString "sep", Value.str (Str.ofString "/") t1), (Str.ofString "altsep", Value.none), (Str.ofString "extsep", Value.str (Str.ofString ".") t3)].reverse.lookup y))
   (N : News g L' s.heap news) (hx : x.length ≤ 63)
   (hE : PassesOwn (model PySem.Challenge.rw_da0006_02.row.prog w) ((callerA.deeper e1).deeper (envOf (Str.ofString "_splitext") (scopeAt 1) L' f cdv)) (envOf (Str.ofString "_splitext") (scopeAt 1) L' f cdv) E)
   (hQ : ∀ h' tk a m' r e u1 u2, Parted (fun c => c == 47) (cs x) (cs r) (cs e) → Fr g L' h' m' → News g L' h' ((a, tup2 (.str r u1) (.str e u2)) :: news) → (∀ p ∈ news, p.1 < a) → Q (.ret (.ref a)) { s with heap := h', toks := tk }) :
   wpAny (model PySem.Challenge.rw_da0006_02.row.prog w) ((callerA.deeper e1).deeper (envOf (Str.ofString "_splitext") (scopeAt 1) L' f cdv)) (execs (bodyAt 1) (envOf (Str.ofString "_splitext") (scopeAt 1) L' f cdv)) Q E s := by
  revert w
  k_fill
  intro w X
  unfold bodyAt scopeAt
  dsimp only [PySem.Challenge.pw_da0006_02, List.getElem?_cons_succ, List.getElem?_cons_zero]
  intro hE
  k_with_none
  w_on
  k_steps
  all_goals dsimp only
  · exact hQ _ _ _ _ _ _ _ _ (part_cut (last_slash x) (by assumption) (by assumption) (by assumption) (by assumption)) (by assumption) (by assumption) (by assumption)
  · exact hQ _ _ _ _ _ _ _ _ (part_pass (last_slash x) (by assumption) (by assumption)) (by assumption) (by assumption) (by assumption)
  · exact hQ _ _ _ _ _ _ _ _ (part_off (last_slash x) (by assumption)) (by assumption) (by assumption) (by assumption)
theorem splitext_back (w : World) {e1 : Env} {E : Value → Shared → Prop} {Q : Flow → Shared → Prop} {s : Shared} {g : Heap} {L' f : Addr} {cdv : Value} {mg mb : Str → Option Value} {mean : ExcName → Option Value}
   {news : List (Addr × Obj)} {x : Str} {t0 t1 t2 t3 : Tok}
   (X : (hd.heap_39 w.params).In g) (T : Top hd.view_39 (looseW hd.view_39 []) mean mg mb g)
   (F : Fr g L' s.heap (fun y => [(Str.ofString "p", Value.str x t0), (Str.ofString "sep", Value.str (Str.ofString "/") t1), (Str.ofString "altsep", Value.str (Str.ofString "\\") t2), (Str.ofString "extsep", Value.str (Str.ofString ".") t3)].reverse.lookup y))
   (N : News g L' s.heap news) (hx : x.length ≤ 63)
   (hE : PassesOwn (model PySem.Challenge.rw_da0006_02.row.prog w) ((callerA.deeper e1).deeper (envOf (Str.ofString "_splitext") (scopeAt 1) L' f cdv)) (envOf (Str.ofString "_splitext") (scopeAt 1) L' f cdv) E)
   (hQ : ∀ h' tk a m' r e u1 u2, Parted (fun c => c == 47 || c == 92) (cs x) (cs r) (cs e) → Fr g L' h' m' → News g L' h' ((a, tup2 (.str r u1) (.str e u2)) :: news) → (∀ p ∈ news, p.1 < a) → Q (.ret (.ref a)) { s with heap := h', toks := tk }) :
   wpAny (model PySem.Challenge.rw_da0006_02.row.prog w) ((callerA.deeper e1).deeper (envOf (Str.ofString "_splitext") (scopeAt 1) L' f cdv)) (execs (bodyAt 1) (envOf (Str.ofString "_splitext") (scopeAt 1) L' f cdv)) Q E s := by
  revert w
  k_fill
  intro w X
  unfold bodyAt scopeAt
  dsimp only [PySem.Challenge.pw_da0006_02, List.getElem?_cons_succ, List.getElem?_cons_zero]
  intro hE
  k_with_none
  w_on
  k_steps
  all_goals dsimp only
  · exact hQ _ _ _ _ _ _ _ _ (part_cut (last_two x) (by assumption) (by assumption) (by assumption) (by assumption)) (by assumption) (by assumption) (by assumption)
  · exact hQ _ _ _ _ _ _ _ _ (part_pass (last_two x) (by assumption) (by assumption)) (by assumption) (by assumption) (by assumption)
  · exact hQ _ _ _ _ _ _ _ _ (part_off (last_two x) (by assumption)) (by assumption) (by assumption) (by assumption)
end Mine
end
-- part HC
section
namespace Mine
theorem strs_snoc {y : Str} {t : Tok} {vs : List Value} {ys : List Str} (h : StrsAre vs ys) : StrsAre (vs ++ [.str y t]) (ys ++ [y]) := h.append' (.cons y t .nil)
section
variable {prog : Program} {w : World} {A : Around} {h₀ : Heap} {L : Addr} {m : Str → Option Value} {env : Env} {elt : Expr} {x : Str} {scope : Scope} {cl : List (Str × Addr)} {s : Shared} {S : List (Addr × Obj) → Prop} {Fin : List Value → List (Addr × Obj) → Prop} {news : List (Addr × Obj)}
/-- a comprehension over a list of texts, whose element is a text -/
theorem comp_strs {its : Array Value} {xs : List Str} (gf : Str → Str) (hi : StrsAre its.toList xs)
    (turn : ∀ y t I oI C oC D m₂ ys h tk (E' : Value → Shared → Prop), y ∈ xs → LCg.NsObj oC m₂ → m₂ x = some (.str y t) → Fr h₀ L h m → News h₀ L h ((I, oI) :: (C, oC) :: (D, LCg.lst ys) :: news) → LCg.Off3 I C D news → ((@Ne Nat I C) ∧ (@Ne Nat I D) ∧ (@Ne Nat C D)) →
      wpAny (model prog w) A (eval elt (compEnvC scope cl C env)) (LCg.CompEnd h₀ L m { s with heap := h, toks := tk } I oI C oC D (LCg.lst ys) S (fun v news' => news' = news ∧ ∃ t', v = .str (gf y) t')) E' { s with heap := h, toks := tk })
    (fin : ∀ ys, StrsAre ys (xs.map gf) → Fin ys news) : LCg.CompRest prog w A h₀ L m env elt x scope cl s S (fun i v => its[i]? = some v) Fin its.size 0 [] news := by
  have hl : its.size = xs.length := by rw [← hi.length]; simp
  have key : ∀ (j i : Nat) (ys : List Value), i + j = its.size → StrsAre ys ((xs.take i).map gf) → LCg.CompRest prog w A h₀ L m env elt x scope cl s S (fun i v => its[i]? = some v) Fin j i ys news := by
    intro j
    induction j with
    | zero =>
      intro i ys hij hy
      rw [show i = xs.length by omega, List.take_length] at hy
      exact LCg.CompRest.zero (fin ys hy)
    | succ j ih =>
      intro i ys hij hy
      refine LCg.CompRest.succ ?_
      intro v I oI C oC D m₂ h tk E' hv hC hx F N off ne
      obtain ⟨y, t, hv', hyi⟩ := hi.item i v (by simpa using hv)
      rw [hv'] at hx
      refine wpAny_mono (turn y t I oI C oC D m₂ ys h tk E' (List.mem_of_getElem? hyi) hC hx F N off ne) (fun v' s₂ hq => ?_) fun _ _ e => e
      obtain ⟨h', tk', nw, e, F', N', off', hS, hn, t', hy'⟩ := hq
      rw [hn] at N' off' hS
      refine ⟨h', tk', news, e, F', N', off', hS, ?_⟩
      rw [hy']
      refine ih (i + 1) _ (by omega) ?_
      rw [List.take_add_one, hyi]
      simpa using strs_snoc hy
  exact key its.size 0 [] (by omega) (by simpa using StrsAre.nil)
end
theorem fr_see {h₀ h : Heap} {L : Addr} {m : Str → Option Value} (F : Fr h₀ L h m) {a : Str} {v : Value} (e : m a = some v) : Fr h₀ L h (fun y => if y = a then some v else m y) := by
  have : (fun y => if y = a then some v else m y) = m := by
    funext y
    by_cases h : y = a
    · rw [if_pos h, h, e]
    · rw [if_neg h]
  rw [this]; exact F
theorem off1_mem {D : Addr} : ∀ {l : List (Addr × Obj)}, LCg.Off1 D l → ∀ p ∈ l, p.1 ≠ D
  | [], _, _, h => nomatch h
  | _ :: _, x, p, h => by
    rcases List.mem_cons.mp h with rfl | h
    · exact x.1
    · exact off1_mem x.2 p h
theorem strs_rev : ∀ {vs : List Value} {ys : List Str}, StrsAre vs ys → StrsAre vs.reverse ys.reverse
  | _, _, .nil => .nil
  | _, _, .cons y t r => by simpa using (strs_rev r).append' (.cons y t .nil)
theorem news_skip2 {g h : Heap} {L : Addr} {a b c d : Addr × Obj} {news : List (Addr × Obj)} (N : News g L h (a :: b :: c :: d :: news)) : News g L h (a :: b :: news) := fun p hp => N p (by
  rcases List.mem_cons.mp hp with rfl | hp
  · exact .head _
  · rcases List.mem_cons.mp hp with rfl | hp
    · exact .tail _ (.head _)
    · exact .tail _ (.tail _ (.tail _ (.tail _ hp))))
theorem due_is (l : List Str) : ((((l.drop 1).map fun y => Str.ofString "." ++ y).reverse).map cs) = (((l.map cs).drop 1).map (46 :: ·)).reverse := by
  rw [List.map_reverse, List.map_map, ← List.map_drop, List.map_map]
  congr 1
  apply List.map_congr_left
  intro a _
  show cs (Str.ofString "." ++ a) = 46 :: cs a
  rw [cs_append, dot_is]; rfl
theorem from_one (vs : List Value) : slicePick vs.toArray (some 1) none none = (vs.drop 1).toArray := slicePick_from' vs.toArray 1
local macro_rules | `(tactic| passes_own) => `(tactic| assumption)
local macro_rules | `(tactic| walk_at "exec Assign cons ListComp") => `(tactic| (k_here; k_dflt (refine LCg.Assign_ListComp_U (F₀ := by k_asm) (by rfl) (by with_unfolding_all rfl) (by with_unfolding_all rfl) (by decide) (by rfl) (by decide) (by rfl) (by rfl) (by rfl) ?_)))
theorem endings_tail (w : World) {e1 : Env} {E : Value → Shared → Prop} {Q : Flow → Shared → Prop} {s : Shared} {g : Heap} {L' f : Addr} {cdv : Value} {mg mb : Str → Option Value} {mean : ExcName → Option Value}
   {news : List (Addr × Obj)} {x : Str} {t0 t1 : Tok} {m : Str → Option Value} {k : Int}
   (X : (hd.heap_39 w.params).In g) (T : Top hd.view_39 (looseW hd.view_39 []) mean mg mb g)
   (F : Fr g L' s.heap m) (hmx : m (Str.ofString "text") = some (.str x t0)) (hmk : m (Str.ofString "start") = some (.int k t1))
   (N : News g L' s.heap news) (hx : x.length ≤ 63) (h0 : 0 ≤ k) (hk : k ≤ x.length)
   (hE : PassesOwn (model PySem.Challenge.rw_da0006_02.row.prog w) ((callerA.deeper e1).deeper (envOf (Str.ofString "_law_endings") (scopeAt 4) L' f cdv)) (envOf (Str.ofString "_law_endings") (scopeAt 4) L' f cdv) E)
   (hQ : ∀ h' tk a d m' stem vs due u n, StrsAre vs due → cs stem = (cs x).take k.toNat ++ ((Txt.split (Txt.slice x (some k) none) (Str.ofString ".")).map cs).headD [] →
      due.map cs = ((((Txt.split (Txt.slice x (some k) none) (Str.ofString ".")).map cs).drop 1).map (46 :: ·)).reverse → Fr g L' h' m' →
      News g L' h' ((a, tup2 (.str stem u) (.ref d)) :: (d, listOf vs.toArray n) :: news) → Q (.ret (.ref a)) { s with heap := h', toks := tk }) :
   wpAny (model PySem.Challenge.rw_da0006_02.row.prog w) ((callerA.deeper e1).deeper (envOf (Str.ofString "_law_endings") (scopeAt 4) L' f cdv)) (execs ((bodyAt 4).drop 3) (envOf (Str.ofString "_law_endings") (scopeAt 4) L' f cdv)) Q E s := by
  replace F := fr_see (fr_see F hmk) (a := Str.ofString "text") (v := .str x t0) (by rw [if_neg (by decide +kernel)]; exact hmx)
  revert w
  k_fill
  intro w X
  unfold bodyAt scopeAt
  dsimp only [PySem.Challenge.pw_da0006_02, List.getElem?_cons_succ, List.getElem?_cons_zero, List.drop_succ_cons, List.drop_zero]
  intro hE
  clear hmx hmk
  k_with_none
  w_on
  k_steps
  rename_i l' h0' k0' hmap hstrs hlen _ h1 F1 N1 h2 F2 N2
  dsimp only at F2 N2 ⊢
  have hkeep : ∀ (_ : Unit), List.map (fun x => x.fst) l' = Txt.split (Txt.slice x (some k) none) (Str.ofString ".") := fun _ => hmap
  have hcount : (strValues l').length ≤ 64 := by
    rw [hstrs.length, hmap]
    exact Nat.le_trans (split_len _) (by omega)
  have hi : StrsAre (slicePick (strValues l').toArray (some 1) none none).toList ((l'.map (·.1)).drop 1) := by
    rw [from_one]; exact hstrs.drop' 1
  refine LCg.CompSrc.ledger (by rfl) F2 N2 (.head _) ?sz ?_
  case sz => exact Nat.le_trans (slicePick_size_le _ _ _ _) (by rw [List.size_toArray, sizeLine_eq]; omega)
  intro g'
  refine comp_strs (fun y => Str.ofString "." ++ y) hi ?turn ?fin
  case turn =>
    intro y t I oI C oC D m₂ ys h tk E' hy hC hm2 F3 N3 off3 ne3
    have hyl : y.length ≤ 63 := Nat.le_trans (hlen y (List.mem_of_mem_drop hy)) (by omega)
    k_steps
    exact ⟨_, _, _, rfl, F3, N3, off3, .inr ⟨_, .head _, rfl, _, rfl⟩, rfl, _, rfl⟩
  case fin =>
    intro ys hys
    unfold LCg.FinA
    intro D h3 tk3 F3 N3 off3
    k_steps
    have hysl : ys.length ≤ 64 := by
      rw [hys.length, List.length_map, List.length_drop, ← hstrs.length]; omega
    refine kl_reverse (l := ys.reverse) F3 N3 (by simp) (Upd.head (off1_mem off3)) (by simp [sizeLine_eq]; omega) ?_
    intro h4 F4 N4
    dsimp only at F4 N4 ⊢
    k_steps
    rename_i y ty hy
    have hyl : y.length ≤ 63 := Nat.le_trans (hlen y (List.mem_of_getElem? hy)) (by omega)
    k_steps
    rename_i F5 N5 l5
    dsimp only at F5 N5 ⊢
    have hm := hkeep ()
    refine hQ _ _ _ D _ _ ys.reverse _ _ _ (strs_rev hys) ?_ ?_ F5 (news_skip2 N5)
    · rw [cs_append, slice_to h0 hk, ← hm]
      congr 1
      cases e : (l'.map (·.1)) with
      | nil => rw [e] at hy; cases hy
      | cons a r => rw [e] at hy; have := Option.some.inj hy; rw [← this]; rfl
    · rw [← hm]; exact due_is _
end Mine
end
-- part HD
section
namespace Mine
/-- st is where the last sign of sp among the first n of l ends -/
def SepEnd (sp : Str) (l : List Nat) (n : Nat) (st : Int) : Prop :=
  ∃ b : Nat, st = b ∧ b ≤ n ∧ (b = 0 ∨ ∃ c, l[b - 1]? = some c ∧ c ∈ cs sp) ∧ ∀ i c, b ≤ i → i < n → l[i]? = some c → c ∉ cs sp
/-- from a to k dots alone -/
def DotRun (l : List Nat) (a k : Int) : Prop := 0 ≤ a ∧ a ≤ k ∧ k ≤ l.length ∧ ∀ i : Nat, a ≤ i → (i : Int) < k → l[i]? = some 46

theorem item_is {x : Str} {k : Int} {n : Nat} (e : k = 0 + (n : Int)) (h : n < ((x.length : Int) - 0).toNat) : ∃ c, (cs x)[n]? = some c ∧ Txt.item x k = ⟨#[c]⟩ := by
  obtain ⟨c, hc⟩ := StrLaws.some_at (x := x) (i := k) (by omega) (by omega)
  have hk : k.toNat = n := by omega
  refine ⟨c, ?_, ?_⟩
  · rw [hk] at hc; simpa [cs] using hc
  · unfold Txt.item Txt.charAt
    rw [StrLaws.at_nonneg (by omega) hc]; rfl
theorem sign_in {sp : Str} {c : Nat} : (Builtin.Str.occurrences sp ⟨#[c]⟩ 0 sp.length 1).isEmpty = false ↔ c ∈ cs sp := by
  have h := StrLaws.found_one sp c
  constructor
  · intro e; rw [e] at h; simpa using h.symm
  · intro e
    have : decide (c ∈ sp.cps.toList) = true := by simpa using e
    rw [this] at h
    simpa using h
theorem sepEnd_zero (sp : Str) (l : List Nat) : SepEnd sp l ([] : List Int).length 0 := ⟨0, rfl, Nat.le_refl _, .inl rfl, fun i c _ h => absurd h (Nat.not_lt_zero i)⟩
theorem sepEnd_miss {sp x : Str} {pre : List Int} {k st : Int} (kInv : SepEnd sp (cs x) pre.length st) (e : k = 0 + (pre.length : Int)) (h : pre.length < ((x.length : Int) - 0).toNat)
    (ho : (Builtin.Str.occurrences sp (Txt.item x k) 0 sp.length 1).isEmpty = true) : SepEnd sp (cs x) (pre ++ [k]).length st := by
  obtain ⟨c, hc, hi⟩ := item_is e h
  rw [hi] at ho
  have hn : c ∉ cs sp := fun q => by rw [sign_in.mpr q] at ho; cases ho
  obtain ⟨b, hb, h1, h2, h3⟩ := kInv
  refine ⟨b, hb, by rw [List.length_append]; omega, h2, fun i d hi1 hi2 hd => ?_⟩
  rw [List.length_append] at hi2
  by_cases q : i < pre.length
  · exact h3 i d hi1 q hd
  · have : i = pre.length := by simp at hi2; omega
    rw [this, hc] at hd
    rw [← Option.some.inj hd]; exact hn
theorem sepEnd_hit {sp x : Str} {pre : List Int} {k st : Int} (kInv : SepEnd sp (cs x) pre.length st) (e : k = 0 + (pre.length : Int)) (h : pre.length < ((x.length : Int) - 0).toNat)
    (ho : (Builtin.Str.occurrences sp (Txt.item x k) 0 sp.length 1).isEmpty = false) : SepEnd sp (cs x) (pre ++ [k]).length (k + 1) := by
  obtain ⟨c, hc, hi⟩ := item_is e h
  rw [hi] at ho
  refine ⟨pre.length + 1, by omega, by simp, .inr ⟨c, by simpa using hc, sign_in.mp ho⟩, fun i d h1 h2 _ => ?_⟩
  simp at h2; omega
theorem range_len (x : Str) : (rangeKs 0 ((x.length : Int) - 0).toNat).length = x.length := by rw [rangeKs_length]; omega
theorem dotRun_start {sp x : Str} {st : Int} (h : SepEnd sp (cs x) (rangeKs 0 ((x.length : Int) - 0).toNat).length st) : DotRun (cs x) st st := by
  obtain ⟨b, rfl, h1, _⟩ := h
  rw [range_len] at h1
  exact ⟨by omega, Int.le_refl _, by rw [cs_len]; omega, fun i a b => by omega⟩
theorem dotRun_lt {x : Str} {a k : Int} (h : DotRun (cs x) a k) (hs : (Txt.slice x (some k) (some (k + 1)) == Str.ofString ".") = true) : k < x.length := by
  obtain ⟨h0, h1, h2, h3⟩ := h
  rw [cs_len] at h2
  have := (slice_dot (by omega) h2).mp hs
  have := (List.getElem?_eq_some_iff.mp this).1
  rw [cs_len] at this
  omega
theorem dotRun_step {x : Str} {a k : Int} (h : DotRun (cs x) a k) (hs : (Txt.slice x (some k) (some (k + 1)) == Str.ofString ".") = true) : DotRun (cs x) a (k + 1) := by
  have hlt := dotRun_lt h hs
  obtain ⟨h0, h1, h2, h3⟩ := h
  rw [cs_len] at h2
  have hd := (slice_dot (by omega) h2).mp hs
  refine ⟨h0, by omega, by rw [cs_len]; omega, fun i hi1 hi2 => ?_⟩
  by_cases q : (i : Int) < k
  · exact h3 i hi1 q
  · rw [show i = k.toNat by omega]; exact hd
theorem dotRun_less {x : Str} {a k : Int} (h : DotRun (cs x) a k) (hs : (Txt.slice x (some k) (some (k + 1)) == Str.ofString ".") = true) : x.length - (k + 1).toNat < x.length - k.toNat := by
  have hlt := dotRun_lt h hs
  have := h.1
  have := h.2.1
  omega
theorem found_of {sep : Nat → Bool} {sp x : Str} {st k : Int} (hsep : ∀ c, sep c = decide (c ∈ cs sp)) (h : SepEnd sp (cs x) (rangeKs 0 ((x.length : Int) - 0).toNat).length st) (hr : DotRun (cs x) st k)
    (hs : (Txt.slice x (some k) (some (k + 1)) == Str.ofString ".") = false) : ∃ b, Found sep (cs x) b k.toNat ((Txt.split (Txt.slice x (some k) none) (Str.ofString ".")).map cs) := by
  obtain ⟨b, rfl, h1, h2, h3⟩ := h
  obtain ⟨r0, r1, r2, r3⟩ := hr
  rw [range_len] at h1 h3
  have hkl := r2
  rw [cs_len] at hkl
  refine ⟨b, ⟨by omega, by omega, ?_, fun i c hi hc => ?_, fun i hi1 hi2 => r3 i (by omega) (by omega), fun q => ?_, ?_, ?_, split_dotfree _⟩⟩
  · rcases h2 with h2 | ⟨c, hc, hm⟩
    · exact .inl h2
    · exact .inr ⟨c, hc, by rw [hsep]; simpa using hm⟩
  · have hlt := (List.getElem?_eq_some_iff.mp hc).1
    rw [cs_len] at hlt
    rw [hsep]
    simpa using h3 i c hi hlt hc
  · rw [(slice_dot (by omega) hkl).mpr q] at hs; cases hs
  · simpa using split_ne _
  · rw [split_join, slice_from (by omega) hkl]
local macro_rules | `(tactic| passes_own) => `(tactic| assumption)
theorem endings_run (w : World) {e1 : Env} {E : Value → Shared → Prop} {Q : Flow → Shared → Prop} {s : Shared} {g : Heap} {L' f : Addr} {cdv : Value} {mg mb : Str → Option Value} {mean : ExcName → Option Value}
   {news : List (Addr × Obj)} {x sp : Str} {t0 t1 : Tok}
   (X : (hd.heap_39 w.params).In g) (T : Top hd.view_39 (looseW hd.view_39 []) mean mg mb g)
   (F : Fr g L' s.heap (fun y => [(Str.ofString "text", Value.str x t0), (Str.ofString "separators", Value.str sp t1)].reverse.lookup y))
   (N : News g L' s.heap news) (hx : x.length ≤ 63) (hsp : sp.length ≤ 2) {sep : Nat → Bool} (hsep : ∀ c, sep c = decide (c ∈ cs sp))
   (hE : PassesOwn (model PySem.Challenge.rw_da0006_02.row.prog w) ((callerA.deeper e1).deeper (envOf (Str.ofString "_law_endings") (scopeAt 4) L' f cdv)) (envOf (Str.ofString "_law_endings") (scopeAt 4) L' f cdv) E)
   (hQ : ∀ h' tk a d m' stem vs due u n b k ps, Found sep (cs x) b k ps → StrsAre vs due → cs stem = (cs x).take k ++ ps.headD [] → due.map cs = ((ps.drop 1).map (46 :: ·)).reverse → Fr g L' h' m' →
      News g L' h' ((a, tup2 (.str stem u) (.ref d)) :: (d, listOf vs.toArray n) :: news) → Q (.ret (.ref a)) { s with heap := h', toks := tk }) :
   wpAny (model PySem.Challenge.rw_da0006_02.row.prog w) ((callerA.deeper e1).deeper (envOf (Str.ofString "_law_endings") (scopeAt 4) L' f cdv)) (execs (bodyAt 4) (envOf (Str.ofString "_law_endings") (scopeAt 4) L' f cdv)) Q E s := by
  revert w
  k_fill
  intro w X
  unfold bodyAt scopeAt
  dsimp only [PySem.Challenge.pw_da0006_02, List.getElem?_cons_succ, List.getElem?_cons_zero]
  intro hE
  k_with_none
  w_on
  (k_with "pyIter ref" => k_state_given ["text", "separators"] (fun x sp pre start => SepEnd sp (cs x) pre.length start) "start")
  (k_with "state" => first | exact sepEnd_zero _ _ | exact sepEnd_miss (by assumption) (by assumption) (by assumption) (by assumption) | exact sepEnd_hit (by assumption) (by assumption) (by assumption) (by assumption) | exact dotRun_start (by assumption) | exact dotRun_step (by assumption) (by assumption))
  (k_with "exec While Compare cons nil" => k_while_given ["text", "start!"] (fun x st0 script k => DotRun (cs x) st0 k) (fun x st0 script k => x.length - k.toNat) "start")
  (k_with "measure" => exact dotRun_less (by assumption) (by assumption))
  (k_with "execs cons Assign cons" => ((with_reducible show wpAny _ _ (execs [_, _, _, _] _) _ _ _); (rename DotRun _ _ _ => hDR); (rename SepEnd _ _ _ _ => hSE); (rename Fr _ _ _ _ => F9); (rename News _ _ _ _ => N9); (rename (_ == _) = false => hst9); (refine endings_tail _ X T F9 (by rfl) (by rfl) N9 hx (Int.le_trans hDR.1 hDR.2.1) (by have := hDR.2.2.1; rw [cs_len] at this; exact this) hE ?tlq); (case tlq => intro h' tk a d m' stem vs due u n hv hst hdu F5 N5; obtain ⟨b, hb⟩ := found_of hsep hSE hDR hst9; exact hQ _ _ _ _ _ _ _ _ _ _ _ _ _ hb hv hst hdu F5 N5)))
  k_steps
end Mine
end
-- part HE
section
namespace Mine
theorem walks_str {prog : Program} {w : World} {A : Around} (hh : A.handled = none) (I : Addr) (x : Str) (t : Tok) :
    Walks prog w A I [I] [I] x.cps.size (SignAt x) (fun i h => h.IsStrIter I (strIterType x) x t i) := by
  unfold strIterType
  split
  · exact Walks.strAscii hh I x t
  · exact Walks.strWide hh I x t
section
variable {prog : Program} {w : World} {A : Around} {E : Value → Shared → Prop} {s : Shared} {h₀ : Heap} {L : Addr} {m : Str → Option Value} {env : Env}
/-- what a comprehension over a text with one test wants, where the test fails at every sign -/
def NoneSrc (prog : Program) (w : World) (A : Around) (h₀ : Heap) (L : Addr) (m : Str → Option Value) (env : Env) (ct : Expr) (x : Str) (scope : Scope) (cl : List (Str × Addr)) (Q : Value → Shared → Prop) (xv : Value) (s₁ : Shared) : Prop :=
  ∃ y t news, xv = .str y t ∧ A.handled = none ∧ y.length ≤ sizeLine ∧ Fr h₀ L s₁.heap m ∧ News h₀ L s₁.heap news ∧
    (∀ c u I oI C oC D m₂ h tk (E' : Value → Shared → Prop), c ∈ cs y → LCg.NsObj oC m₂ → m₂ x = some (.str ⟨#[c]⟩ u) → Fr h₀ L h m → News h₀ L h ((I, oI) :: (C, oC) :: (D, LCg.lst []) :: news) →
      wpAny (model prog w) A (isTrue ct (compEnvC scope cl C env) (eval ct (compEnvC scope cl C env))) (fun ok s' => ok = false ∧ ∃ tk', s' = { s₁ with heap := h, toks := tk' }) E' { s₁ with heap := h, toks := tk }) ∧
    (∀ D h' tk, Fr h₀ L h' m → News h₀ L h' ((D, LCg.lst []) :: news) → Q (.ref D) { s₁ with heap := h', toks := tk })
theorem noneRest {ct elt : Expr} {x : Str} {scope : Scope} {cl : List (Str × Addr)} {S : List (Addr × Obj) → Prop} {y : Str} {news : List (Addr × Obj)} {Fin : List Value → List (Addr × Obj) → Prop} (hS : S news)
    (turn : ∀ c u I oI C oC D m₂ h tk (E' : Value → Shared → Prop), c ∈ cs y → LCg.NsObj oC m₂ → m₂ x = some (.str ⟨#[c]⟩ u) → Fr h₀ L h m → News h₀ L h ((I, oI) :: (C, oC) :: (D, LCg.lst []) :: news) →
      wpAny (model prog w) A (isTrue ct (compEnvC scope cl C env) (eval ct (compEnvC scope cl C env))) (fun ok s' => ok = false ∧ ∃ tk', s' = { s with heap := h, toks := tk' }) E' { s with heap := h, toks := tk })
    (fin : Fin [] news) : ∀ j i, LCt.CompRestT prog w A h₀ L m env ct elt x scope cl s S (SignAt y) Fin j i [] news
  | 0, _ => LCt.CompRestT.zero fin
  | j + 1, i => by
    refine LCt.CompRestT.succ ?_
    intro v I oI C oC D m₂ h tk E' hv hC hx F N off ne
    obtain ⟨c, u, hc, rfl⟩ := hv
    refine wpAny_mono (turn c u I oI C oC D m₂ h tk E' (by simpa [cs] using Array.mem_of_getElem? hc) hC hx F N) (fun ok s' hq => ?_) fun _ _ e => e
    obtain ⟨rfl, tk', rfl⟩ := hq
    simp only [Bool.false_eq_true, if_false]
    exact ⟨h, tk', news, rfl, F, N, off, hS, noneRest hS turn fin j (i + 1)⟩
theorem ListComp_none {ct elt iter : Expr} {x : Str} {px : Pos} {scope : Scope} {cl : List (Str × Addr)} {pos : Pos} {Q : Value → Shared → Prop} (F₀ : Fr h₀ L s.heap m)
    (hclos : closureFor scope env = pure cl) (hcell : ∀ y ∈ scope.names, y.2 ≠ .cell) (hkind : scope.kind = .function)
    (hnames : ∀ y ∈ scope.names, y.2 = .local → scope.names.lookup y.1 = some .local) (hx : scope.names.lookup x = some .local)
    (h : wpAny (model prog w) A (eval iter env) (NoneSrc prog w A h₀ L m env ct x scope cl Q) E s)
    (hs : ∀ x, foldedSetIterable iter env x = pure x := by intro _; rfl) :
    wpAny (model prog w) A (eval (.ListComp elt [⟨.Name x px, iter, [ct], 0⟩] scope pos) env) Q E s := by
  rw [eval_ListComp]
  refine wpAny_comprehension_free (use := none) rfl hs hclos hkind hnames (wpAny_mono h (fun xv s₁ h₁ => ?_) fun _ _ e => e)
  obtain ⟨y, t, news, rfl, hh, hsz, F, N, turn, fin⟩ := h₁
  refine wpAny_pyIter_strU ?_
  have up : ∀ b o, s₁.heap.get? b = some o → (s₁.heap.push { cls := .type (strIterType y), data := .fields #[.str y t, .int 0 0] }).get? b = some o := fun b o e => Heap.get?_push_of_some _ e
  refine LCt.block_T (S := fun _ => True) (Fin := fun ys nw => ys = [] ∧ nw = news) (walks_str hh s₁.heap.objs.size y t) hsz (fun i h st => by obtain ⟨o, e, _⟩ := st; exact ⟨o, e⟩)
    (fun i h h' o nw st e e' _ _ _ => ?_) hcell hkind hx ⟨_, Heap.get?_push_size _ rfl, rfl, rfl⟩ (fun b hb => ?_)
    (F.keeps up) (N.grown up) (Nat.ne_of_lt F.ns.lt) (next_is_new F) (fun p hp => Nat.ne_of_lt (Heap.lt_size (N p hp).1)) trivial (noneRest trivial ?_ ⟨rfl, rfl⟩ _ _) ?_
  · obtain ⟨o', ho', r⟩ := st
    rw [e] at ho'
    exact ⟨o, e', by rw [Option.some.inj ho']; exact r⟩
  · rw [List.mem_singleton.mp hb]
    show s₁.heap.objs.size < (s₁.heap.push _).objs.size
    rw [Heap.size_push]; exact Nat.lt_succ_self _
  · exact turn
  · intro D C h tk m' ys news' F' N' o1 hn hC₀ hD₀ hCL hDL hCD offC fin'
    obtain ⟨rfl, rfl⟩ := fin'
    refine ⟨m', hn, fun h'' hs'' => fin D h'' tk (F'.change hs'' hCL hC₀) (fun p hp => ?_)⟩
    refine ⟨hs''.extBut _ _ ?_ (N' p hp).1, (N' p hp).2⟩
    rcases List.mem_cons.mp hp with rfl | hp
    · exact Ne.symm hCD
    · exact offC p hp
end
end Mine
end
-- part HF
section
namespace Mine
/-- the body of the law's outer loop -/
def turnBody : List Stmt := match (bodyAt 5)[1]? with
  | some (PySem.Stmt.For _ _ b _ _) => b
  | _ => []
/-- what stands for the other separator -/
def AltIs (alt : Value) (sep : Nat → Bool) : Prop := (alt = .none ∧ sep = fun c => c == 47) ∨ ∃ t, alt = .str (Str.ofString "\\") t ∧ sep = fun c => c == 47 || c == 92
/-- the law's inner loop: as many endings are taken off as turns were made -/
def LoopInv (l : List Nat) (k : Nat) (ps : List (List Nat)) (n : Nat) (left : Str) (ends : List Str) : Prop :=
  ∃ as bs, ps = as ++ bs ∧ as ≠ [] ∧ cs left = l.take k ++ joinD as ∧ ends.map cs = (bs.map (46 :: ·)).reverse ∧ bs.length = n
theorem loop_start {sep : Nat → Bool} {x : Str} {b k : Nat} {ps : List (List Nat)} (H : Found sep (cs x) b k ps) : LoopInv (cs x) k ps ([] : List Int).length x [] :=
  ⟨ps, [], by simp, H.ne, by rw [H.join, List.take_append_drop], rfl, rfl⟩
theorem call_endings (w : World) {E : Value → Shared → Prop} {Q : Value → Shared → Prop} {s : Shared} {base h₀ : Heap} {L fa : Addr} {cd : Value} {mg mb : Str → Option Value} {mean : ExcName → Option Value}
   {news : List (Addr × Obj)} {x sp : Str} {t tc : Tok} {m : Str → Option Value} {sep : Nat → Bool}
   (K0 : Below callerA base [] h₀) (X : (hd.heap_39 w.params).In h₀) (T : Top hd.view_39 (looseW hd.view_39 []) mean mg mb h₀)
   (F : Fr h₀ L s.heap m) (N : News h₀ L s.heap news) (hx : x.length ≤ 63) (hsp : sp.length ≤ 2) (hsep : ∀ c, sep c = decide (c ∈ cs sp))
   (hQ : ∀ h' tk a d stem vs due u n b k ps, Found sep (cs x) b k ps → StrsAre vs due → cs stem = (cs x).take k ++ ps.headD [] → due.map cs = ((ps.drop 1).map (46 :: ·)).reverse → Fr h₀ L h' m →
      News h₀ L h' ((a, tup2 (.str stem u) (.ref d)) :: (d, listOf vs.toArray n) :: news) → Q (.ref a) { s with heap := h', toks := tk }) :
   wpAny (model PySem.Challenge.rw_da0006_02.row.prog w) (callerA.deeper (envOfC (Str.ofString "law") (scopeAt 5) L fa cd)) (call (.ref 33) [.str x t, .str sp tc] []) Q E s := by
  revert w
  k_fill
  intro w X
  k_with_none
  w_on
  k_dflt ((refine wpAny_call ?_); k_enter)
  rename Fr _ _ _ _ => F9
  rename News _ _ _ _ => N9
  rename Top _ _ _ _ _ _ => T9
  rename Frag.In _ _ => X9
  refine endings_run _ X9 T9 F9 N9 hx hsp hsep ?pso ?tlq
  case pso => with_unfolding_all passes_own
  case tlq =>
    intro h' tk a d m' stem vs due u n b k ps hfound hv hst hdu F5 N5
    exact leaveK_ F5 N5 fun kF kN => hQ _ _ _ _ _ _ _ _ _ _ _ _ hfound hv hst hdu kF kN
theorem call_splitext (w : World) {E : Value → Shared → Prop} {Q : Value → Shared → Prop} {s : Shared} {base h₀ : Heap} {L fa : Addr} {cd : Value} {mg mb : Str → Option Value} {mean : ExcName → Option Value}
   {news : List (Addr × Obj)} {x : Str} {t0 t1 t3 : Tok} {alt : Value} {m : Str → Option Value} {sep : Nat → Bool}
   (K0 : Below callerA base [] h₀) (X : (hd.heap_39 w.params).In h₀) (T : Top hd.view_39 (looseW hd.view_39 []) mean mg mb h₀)
   (F : Fr h₀ L s.heap m) (N : News h₀ L s.heap news) (hx : x.length ≤ 63) (halt : AltIs alt sep)
   (hQ : ∀ h' tk a r e u1 u2, Parted sep (cs x) (cs r) (cs e) → Fr h₀ L h' m → News h₀ L h' ((a, tup2 (.str r u1) (.str e u2)) :: news) → (∀ p ∈ news, p.1 < a) → Q (.ref a) { s with heap := h', toks := tk }) :
   wpAny (model PySem.Challenge.rw_da0006_02.row.prog w) (callerA.deeper (envOfC (Str.ofString "law") (scopeAt 5) L fa cd)) (call (.ref 21) [.str x t0, .str (Str.ofString "/") t1, alt, .str (Str.ofString ".") t3] []) Q E s := by
  revert w
  k_fill
  intro w X
  k_with_none
  w_on
  rcases halt with ⟨rfl, rfl⟩ | ⟨t2, rfl, rfl⟩
  · k_dflt ((refine wpAny_call ?_); k_enter)
    rename Fr _ _ _ _ => F9
    rename News _ _ _ _ => N9
    rename Top _ _ _ _ _ _ => T9
    rename Frag.In _ _ => X9
    refine splitext_none (t2 := 0) _ X9 T9 F9 N9 hx ?pso ?tlq
    case pso => with_unfolding_all passes_own
    case tlq =>
      intro h' tk a m' r e u1 u2 hp F5 N5 l5
      exact leaveK_ F5 N5 fun kF kN => hQ _ _ _ _ _ _ _ hp kF kN l5
  · k_dflt ((refine wpAny_call ?_); k_enter)
    rename Fr _ _ _ _ => F9
    rename News _ _ _ _ => N9
    rename Top _ _ _ _ _ _ => T9
    rename Frag.In _ _ => X9
    refine splitext_back _ X9 T9 F9 N9 hx ?pso ?tlq
    case pso => with_unfolding_all passes_own
    case tlq =>
      intro h' tk a m' r e u1 u2 hp F5 N5 l5
      exact leaveK_ F5 N5 fun kF kN => hQ _ _ _ _ _ _ _ hp kF kN l5
end Mine
end
-- part HG
section
namespace Mine
theorem map_cs_inj {a b : List Str} (h : a.map cs = b.map cs) : a = b := by
  induction a generalizing b with
  | nil => cases b with
    | nil => rfl
    | cons y r => cases h
  | cons x r ih =>
    cases b with
    | nil => cases h
    | cons y r' =>
      simp only [List.map_cons, List.cons.injEq] at h
      rw [cs_ext h.1, ih h.2]
theorem take_join {sep : Nat → Bool} {l : List Nat} {b k : Nat} {as bs : List (List Nat)} (H : Found sep l b k (as ++ bs)) (hne : as ≠ []) : ∃ t, l = (l.take k ++ joinD as) ++ t := by
  have hd : l.drop k = joinD (as ++ bs) := H.join.symm
  cases bs with
  | nil => exact ⟨[], by rw [List.append_nil] at hd ⊢; conv => lhs; rw [← List.take_append_drop k l, hd]⟩
  | cons q r =>
    refine ⟨46 :: joinD (q :: r), ?_⟩
    conv => lhs; rw [← List.take_append_drop k l, hd, joinD_append hne (by simp)]
    simp
theorem loop_len {sep : Nat → Bool} {x : Str} {b k n : Nat} {ps : List (List Nat)} {left : Str} {ends : List Str} (H : Found sep (cs x) b k ps) (I : LoopInv (cs x) k ps n left ends) : left.length ≤ x.length := by
  obtain ⟨as, bs, rfl, hne, hl, _, _⟩ := I
  obtain ⟨t, e⟩ := take_join H hne
  have h1 := congrArg List.length e
  rw [← hl, List.length_append, cs_len, cs_len] at h1
  omega
/-- as many turns as the text has signs and one: none is left -/
theorem loop_out {sep : Nat → Bool} {x : Str} {b k n : Nat} {ps : List (List Nat)} {left : Str} {ends : List Str} (H : Found sep (cs x) b k ps) (hn : x.length + 1 ≤ n) (I : LoopInv (cs x) k ps n left ends) : False := by
  obtain ⟨as, bs, rfl, hne, _, _, hb⟩ := I
  have h1 := joinD_length (as ++ bs)
  rw [H.join, List.length_drop, List.length_append, cs_len] at h1
  have : as.length ≠ 0 := by simpa using hne
  omega
theorem ends_len {l : List Nat} {k n : Nat} {ps : List (List Nat)} {left : Str} {ends : List Str} (I : LoopInv l k ps n left ends) : ends.length = n := by
  obtain ⟨as, bs, _, _, _, he, hb⟩ := I
  have := congrArg List.length he
  simpa [hb] using this
structure TurnEnd (left stem : Str) (due ends : List Str) (r e : Str) : Prop where
  r : r = left
  e : e = Str.ofString ""
  due : due = ends
  stem : stem = left
structure TurnOn (l : List Nat) (k : Nat) (ps : List (List Nat)) (n : Nat) (sp left : Str) (ends : List Str) (r e : Str) : Prop where
  cat : r ++ e = left
  lenR : r.length ≤ left.length
  lenE : e.length ≤ left.length
  pos : 1 ≤ e.length
  ne : (e == Str.ofString "") = false
  item : Txt.item e 0 = Str.ofString "."
  free : (Builtin.Str.occurrences (Txt.slice e (some 1) none) (Str.ofString ".") 0 (Txt.slice e (some 1) none).length 1).isEmpty = true
  signs : ∀ c ∈ cs e, c ∉ cs sp
  next : LoopInv l k ps (n + 1) r (ends ++ [e])
theorem item_zero {e : Str} {c : Nat} {q : List Nat} (h : cs e = c :: q) : Txt.item e 0 = ⟨#[c]⟩ := by
  have hl : e.length = q.length + 1 := by rw [← cs_len, h]; rfl
  obtain ⟨d, hd, hi⟩ := item_is (x := e) (k := 0) (n := 0) (by rfl) (by omega)
  rw [h] at hd
  rw [hi, ← Option.some.inj hd]
theorem turn_cases {sep : Nat → Bool} {x sp : Str} {b k n : Nat} {ps : List (List Nat)} {left stem : Str} {due ends : List Str} {r e : Str} (hsep : ∀ c, sep c = decide (c ∈ cs sp)) (h46 : sep 46 = false) (H : Found sep (cs x) b k ps) (I : LoopInv (cs x) k ps n left ends)
    (hst : cs stem = (cs x).take k ++ ps.headD []) (hdu : due.map cs = ((ps.drop 1).map (46 :: ·)).reverse) (P : Parted sep (cs left) (cs r) (cs e)) :
    TurnEnd left stem due ends r e ∨ TurnOn (cs x) k ps n sp left ends r e := by
  obtain ⟨as, bs, rfl, hne, hl, he, hb⟩ := I
  rw [hl] at P
  rcases List.eq_nil_or_concat as with rfl | ⟨as', q, rfl⟩
  · exact absurd rfl hne
  · rw [List.concat_eq_append] at *
    by_cases h' : as' = []
    · subst h'
      rw [List.nil_append] at *
      obtain ⟨h1, h2⟩ := turn_last H P
      refine .inl ⟨cs_ext (h1.trans hl.symm), cs_ext (by rw [h2, none_is]), map_cs_inj ?_, cs_ext ?_⟩
      · rw [hdu, he]; rfl
      · rw [hst, hl]; rfl
    · rw [List.append_assoc, List.singleton_append] at H
      obtain ⟨h1, h2⟩ := turn_more h' H P
      have hcat : cs left = cs r ++ cs e := by rw [hl, h1, h2, joinD_append h' (by simp)]; simp [joinD]
      have hlen := congrArg List.length hcat
      rw [List.length_append, cs_len, cs_len, cs_len] at hlen
      have hel : e.length = q.length + 1 := by rw [← cs_len, h2]; rfl
      have hq : 46 ∉ q := H.free q (by simp)
      refine .inr ⟨cs_ext (by rw [cs_append, hcat]), by omega, by omega, by omega, ?_, ?_, ?_, ?_, ?_⟩
      · cases hh : (e == Str.ofString "") with
        | false => rfl
        | true =>
          have := beq_iff_eq.mp hh
          rw [this, none_is] at h2
          cases h2
      · rw [item_zero h2, dot_is]
      · have hc : cs (Txt.slice e (some 1) none) = q := by rw [slice_from (by omega) (by omega), h2]; rfl
        rw [dot_is]
        cases hh : (Builtin.Str.occurrences (Txt.slice e (some 1) none) ⟨#[46]⟩ 0 (Txt.slice e (some 1) none).length 1).isEmpty with
        | true => rfl
        | false => exact absurd (hc ▸ sign_in.mp hh) hq
      · intro c hc hm
        have hs : sep c = true := by rw [hsep]; simpa using hm
        rw [h2] at hc
        rcases List.mem_cons.mp hc with rfl | hc
        · rw [h46] at hs; cases hs
        · -- q lies behind k
          obtain ⟨j, hj⟩ := List.getElem?_of_mem hc
          obtain ⟨t, et⟩ := take_join (as := as' ++ [q]) (bs := bs) (by rw [List.append_assoc]; exact H) (by simp)
          have hkl := H.kl
          have ht : ((cs x).take k).length = k := by rw [List.length_take]; omega
          have hat : (cs x)[k + ((joinD as').length + 1 + j)]? = some c := by
            rw [et, joinD_append h' (by simp), List.getElem?_append_left]
            · rw [List.getElem?_append_right (by rw [ht]; omega), ht, List.getElem?_append_right (by omega)]
              have : k + ((joinD as').length + 1 + j) - k - (joinD as').length = j + 1 := by omega
              rw [this, List.getElem?_cons_succ]
              exact hj
            · have := (List.getElem?_eq_some_iff.mp hj).1
              simp only [List.length_append, List.length_cons, ht, joinD]
              omega
          have := H.noSep _ c (by have := H.bk; omega) hat
          rw [hs] at this; cases this
      · refine ⟨as', q :: bs, by simp, h', h1, ?_, by simp [hb]⟩
        rw [List.map_append, he, List.map_cons, List.map_nil, h2, List.map_cons, List.reverse_cons]
end Mine
end
-- part HI
section
namespace Mine
/-- the body of the law's inner loop -/
def loopBody : List Stmt := match turnBody[3]? with
  | some (PySem.Stmt.For _ _ b _ _) => b
  | _ => []
theorem none_len : (Str.ofString "").length = 0 := by decide +kernel
theorem cat_none (r : Str) : ¬ (r ++ Str.ofString "" != r) = true := by
  rw [none_is, show (⟨#[]⟩ : Str) = Str.empty from rfl, Str.append_empty]; simp
theorem ne_not {a b : Str} (h : a = b) : ¬ (a != b) = true := by rw [h]; simp
theorem eq_not {b : Bool} (h : b = false) : ¬ b = true := by rw [h]; exact Bool.false_ne_true
theorem sign_out {sp : Str} {c : Nat} (h : ¬ c ∈ cs sp) : (!(Builtin.Str.occurrences sp ⟨#[c]⟩ 0 sp.length 1).isEmpty) = false := by
  rw [StrLaws.found_one]; simpa using h
theorem see3 {m : Str → Option Value} {left : Str} {t1 : Tok} {alt : Value} {le : Addr} (hml : m (Str.ofString "left") = some (.str left t1)) (hmo : m (Str.ofString "other") = some alt) (hme : m (Str.ofString "endings") = some (.ref le)) (z : Str) :
    (if z = Str.ofString "left" then some (Value.str left t1) else if z = Str.ofString "other" then some alt else if z = Str.ofString "endings" then some (Value.ref le) else m z) = m z := by
  by_cases h1 : z = Str.ofString "left"
  · rw [if_pos h1, h1, hml]
  · rw [if_neg h1]
    by_cases h2 : z = Str.ofString "other"
    · rw [if_pos h2, h2, hmo]
    · rw [if_neg h2]
      by_cases h3 : z = Str.ofString "endings"
      · rw [if_pos h3, h3, hme]
      · rw [if_neg h3]
theorem body_run (w : World) {E : Value → Shared → Prop} {Q : Flow → Shared → Prop} {s : Shared} {base h₀ : Heap} {L fa le : Addr} {cd : Value} {mg mb : Str → Option Value} {mean : ExcName → Option Value}
   {news : List (Addr × Obj)} {sp left : Str} {tc t1 : Tok} {oc : Obj} {alt : Value} {m : Str → Option Value} {sep : Nat → Bool} {us : List Value} {ends : List Str} {c k nn : Nat} {l : List Nat} {ps : List (List Nat)} {R : Prop}
   (K0 : Below callerA base [] h₀) (X : (hd.heap_39 w.params).In h₀) (T : Top hd.view_39 (looseW hd.view_39 []) mean mg mb h₀)
   (F : Fr h₀ L s.heap m) (hml : m (Str.ofString "left") = some (.str left t1)) (hmo : m (Str.ofString "other") = some alt) (hme : m (Str.ofString "endings") = some (.ref le))
   (N : News h₀ L s.heap ((le, listOf us.toArray c) :: (L + 1, oc) :: news)) (hle : L + 1 ≠ le) (hoff : ∀ p ∈ news, p.1 ≠ le) (hoc : oc.data = .cell (some (.str sp tc)))
   (hll : left.length ≤ 63) (husl : us.length ≤ 64) (hsp : sp.length ≤ 2) (halt : AltIs alt sep)
   (hcases : ∀ r e, Parted sep (cs left) (cs r) (cs e) → (r = left ∧ e = Str.ofString "" ∧ R) ∨ TurnOn l k ps nn sp left ends r e)
   (hBrk : R → ∀ h' tk m', Fr h₀ L h' m' → (∀ z, z ≠ Str.ofString "root" → z ≠ Str.ofString "ending" → m' z = m z) → News h₀ L h' ((le, listOf us.toArray c) :: (L + 1, oc) :: news) → Q .brk { s with heap := h', toks := tk })
   (hNext : ∀ r e h' tk m' tr te, TurnOn l k ps nn sp left ends r e → Fr h₀ L h' m' → m' (Str.ofString "left") = some (.str r tr) → (∀ z, z ≠ Str.ofString "left" → z ≠ Str.ofString "root" → z ≠ Str.ofString "ending" → m' z = m z) →
      News h₀ L h' ((le, listOf (us ++ [Value.str e te]).toArray (c + 1)) :: (L + 1, oc) :: news) → Q .next { s with heap := h', toks := tk }) :
   wpAny (model PySem.Challenge.rw_da0006_02.row.prog w) (callerA.deeper (envOfC (Str.ofString "law") (scopeAt 5) L fa cd)) (execs loopBody (envOfC (Str.ofString "law") (scopeAt 5) L fa cd)) Q E s := by
  replace F := fr_see (fr_see (fr_see F hme) (a := Str.ofString "other") (v := alt) (by rw [if_neg (by decide +kernel)]; exact hmo)) (a := Str.ofString "left") (v := .str left t1) (by rw [if_neg (by decide +kernel), if_neg (by decide +kernel)]; exact hml)
  revert w
  k_fill
  intro w X
  unfold loopBody turnBody bodyAt scopeAt
  dsimp only [PySem.Challenge.pw_da0006_02, List.getElem?_cons_succ, List.getElem?_cons_zero, List.drop_succ_cons, List.drop_zero]
  k_with_none
  w_on
  (k_with "call ref" => ((rename Fr _ _ _ _ => F9); (rename News _ _ _ _ => N9); (k_dflt (refine call_splitext w K0 X T F9 N9 hll halt ?_)); intro h' tk a r e u1 u2 hp F5 N5 l5; clear F9 N9; (refine Or.elim (hcases r e hp) ?cA ?cB); (case' cA => (rintro ⟨hr, he, hR⟩; subst hr; subst he; (have hc1 := cat_none r); (have hz := none_len))); (case' cB => (intro hon; (have hrl : r.length ≤ 63 := Nat.le_trans hon.lenR hll); (have hel : e.length ≤ 63 := Nat.le_trans hon.lenE hll); (have hep := hon.pos); (have hc1 := ne_not hon.cat); (have hc2 := eq_not hon.ne); (have hc3 := ne_not hon.item); (have hc4 := hon.free)))))
  (k_with "ite" => refine W.ite_neg (by assumption) ?_)
  (k_with "eval ListComp" => k_dflt (refine ListComp_none (F₀ := by k_asm) (by with_unfolding_all rfl) (by decide) (by rfl) (by decide) (by rfl) ?_))
  (k_with "NoneSrc" => ((rename Fr _ _ _ _ => F9); (rename News _ _ _ _ => N9); (k_dflt (refine ⟨_, _, _, rfl, by rfl, (by rw [sizeLine_eq]; omega), F9, N9, ?nt, ?nf⟩)); (case nt => (intro c u I oI C oC D m₂ h tk E' hc hC hm F8 N8; (have hcn := hon.signs c hc); clear F9 N9; k_steps; (all_goals (first | exact sign_out hcn | exact ⟨_, rfl⟩ | exact rfl)))); (case' nf => (clear F9 N9; intro D h' tk F9 N9))))
  (k_with "call builtin:list.append" => ((rename Fr _ _ _ _ => F9); (rename News _ _ _ _ => N9); (have N8 : News h₀ L _ ((le, listOf us.toArray c) :: (L + 1, oc) :: news) := fun p hp => N9 p (by repeat (first | exact hp | refine List.Mem.tail _ ?_))); (k_dflt (refine append_K F9 N8 (Upd.head (List.forall_mem_cons.mpr ⟨hle, hoff⟩)) ?_ ?asz)); (case asz => (rw [List.size_toArray, sizeLine_eq]; omega)); (clear N9 N8 F9); intro h' F9 N9))
  k_steps
  · rename_i F9 N9
    rw [List.push_toArray] at N9
    refine hNext r e _ _ _ _ u2 hon F9 (by rw [if_pos rfl]) (fun z h1 h2 h3 => ?_) N9
    rw [if_neg h1, if_neg h3, if_neg h2]
    exact see3 hml hmo hme z
  · dsimp only
    rename Fr _ _ _ _ => F9
    rename News _ _ _ _ => N9
    refine hBrk hR _ _ _ F9 (fun z h2 h3 => ?_) (fun p hp => N9 p (.tail _ hp))
    rw [if_neg h3, if_neg h2]
    exact see3 hml hmo hme z
end Mine
end
-- part HJ
section
namespace Mine
theorem strs_canLay : ∀ ns : List Str, (∀ y ∈ ns, PyData.strOk y = true) → PyData.canLayAll0 (ns.map PyData.str) = true
  | [], _ => rfl
  | y :: r, h => by simp [PyData.canLayAll0, PyData.canLay0, strs_canLay r fun z hz => h z (.tail _ hz), h y (.head _)]
theorem strs_depth : ∀ ns : List Str, PyData.depthAll (ns.map PyData.str) = 0
  | [] => rfl
  | _ :: r => by simp [PyData.depthAll, PyData.depth, strs_depth r]
theorem strs_shaped (ns : List Str) (h : ∀ y ∈ ns, PyData.strOk y = true) : SeqAt.shaped (.list (ns.map PyData.str)) = true := by
  simp [SeqAt.shaped, PyData.canLay0, PyData.depth, strs_canLay ns h, strs_depth]
theorem strs_sameAll : ∀ ns : List Str, PySem.Spec.sameAll (ns.map PyData.str) (ns.map PyData.str) = true
  | [] => by simp [PySem.Spec.sameAll]
  | a :: r => by simp [PySem.Spec.sameAll, PySem.Spec.same, strs_sameAll r]
theorem strs_same (ns : List Str) : PySem.Spec.same (.list (ns.map PyData.str)) (.list (ns.map PyData.str)) = true := by
  simp only [PySem.Spec.same]; exact strs_sameAll ns
section
variable {prog : Program} {w : World} {A : Around} {E : Value → Shared → Prop} {s : Shared} {a b : Addr} {xs ys : List Value} {ns : List Str} {Q : Value → Shared → Prop}
/-- two lists of the same texts are not unequal -/
theorem ne_strs (ha : s.heap.IsList a xs.toArray) (hb : s.heap.IsList b ys.toArray) (hi : StrsAre xs ns) (hj : StrsAre ys ns) (hok : ∀ y ∈ ns, PyData.strOk y = true) (hu : A.units + 64 < cLine) (h : Q (.bool false) s) :
    wpAny (model prog w) A (compareOp .NotEq (.ref a) (.ref b)) Q E s :=
  ne_dataH_same (reads_newData ha hi.carried) (reads_newData hb hj.carried) (strs_shaped _ hok) (strs_shaped _ hok) hu (SeqAt.noMix_of_shape (.list .str) rfl _ _ (list_map_has fun _ => rfl) (list_map_has fun _ => rfl)) (by rw [strs_same]; exact h)
end
local macro_rules | `(tactic| walk_at "compareOp NotEq ref ref") => `(tactic| ((rename News _ _ _ _ => N9); (k_dflt (refine ne_strs (News.isList N9 (.head _)) (News.isList N9 (.tail _ (.head _))) (by assumption) (by assumption) (by assumption) (by ke_room) ?_))))
theorem ne_self {a : Str} {P : Prop} (h : (a != a) = true) : P := by simp at h
theorem see4 {m : Str → Option Value} {left : Str} {t1 t2 : Tok} {le d : Addr} (hml : m (Str.ofString "left") = some (.str left t1)) (hms : m (Str.ofString "stem") = some (.str left t2)) (hmd : m (Str.ofString "due") = some (.ref d)) (hme : m (Str.ofString "endings") = some (.ref le)) (z : Str) :
    (if z = Str.ofString "left" then some (Value.str left t1) else if z = Str.ofString "stem" then some (Value.str left t2) else if z = Str.ofString "due" then some (Value.ref d) else if z = Str.ofString "endings" then some (Value.ref le) else m z) = m z := by
  by_cases h1 : z = Str.ofString "left"
  · rw [if_pos h1, h1, hml]
  · rw [if_neg h1]
    by_cases h2 : z = Str.ofString "stem"
    · rw [if_pos h2, h2, hms]
    · rw [if_neg h2]
      by_cases h3 : z = Str.ofString "due"
      · rw [if_pos h3, h3, hmd]
      · rw [if_neg h3]
        by_cases h4 : z = Str.ofString "endings"
        · rw [if_pos h4, h4, hme]
        · rw [if_neg h4]
theorem after_run (w : World) {E : Value → Shared → Prop} {Q : Flow → Shared → Prop} {s : Shared} {base h₀ : Heap} {L fa le d : Addr} {cd : Value} {mg mb : Str → Option Value} {mean : ExcName → Option Value}
   {news : List (Addr × Obj)} {left : Str} {t1 t2 : Tok} {m : Str → Option Value} {us vs : List Value} {ends : List Str} {c n : Nat}
   (K0 : Below callerA base [] h₀) (X : (hd.heap_39 w.params).In h₀) (T : Top hd.view_39 (looseW hd.view_39 []) mean mg mb h₀)
   (F : Fr h₀ L s.heap m) (hml : m (Str.ofString "left") = some (.str left t1)) (hms : m (Str.ofString "stem") = some (.str left t2)) (hmd : m (Str.ofString "due") = some (.ref d)) (hme : m (Str.ofString "endings") = some (.ref le))
   (N : News h₀ L s.heap ((le, listOf us.toArray c) :: (d, listOf vs.toArray n) :: news)) (hus : StrsAre us ends) (hvs : StrsAre vs ends) (hok : ∀ y ∈ ends, PyData.strOk y = true)
   (hQ : ∀ h' tk m', Fr h₀ L h' m' → (∀ z, m' z = m z) → News h₀ L h' ((le, listOf us.toArray c) :: (d, listOf vs.toArray n) :: news) → Q .next { s with heap := h', toks := tk }) :
   wpAny (model PySem.Challenge.rw_da0006_02.row.prog w) (callerA.deeper (envOfC (Str.ofString "law") (scopeAt 5) L fa cd)) (execs (turnBody.drop 4) (envOfC (Str.ofString "law") (scopeAt 5) L fa cd)) Q E s := by
  replace F := fr_see (fr_see (fr_see (fr_see F hme) (a := Str.ofString "due") (v := .ref d) (by rw [if_neg (by decide +kernel)]; exact hmd)) (a := Str.ofString "stem") (v := .str left t2) (by rw [if_neg (by decide +kernel), if_neg (by decide +kernel)]; exact hms))
    (a := Str.ofString "left") (v := .str left t1) (by rw [if_neg (by decide +kernel), if_neg (by decide +kernel), if_neg (by decide +kernel)]; exact hml)
  revert w
  k_fill
  intro w X
  unfold turnBody bodyAt scopeAt
  dsimp only [PySem.Challenge.pw_da0006_02, List.getElem?_cons_succ, List.getElem?_cons_zero, List.drop_succ_cons, List.drop_zero]
  k_with_none
  w_on
  (k_with "ite" => refine W.ite_neg (by decide) ?_)
  k_steps
  · rename (left != left) = true => hne
    exact ne_self hne
  · rename Fr _ _ _ _ => F9
    rename News _ _ _ _ => N9
    exact hQ _ _ _ F9 (see4 hml hms hmd hme) N9
end Mine
end
-- part HK
section
namespace Mine
theorem mem_joinD {c : Nat} {p : List Nat} (hc : c ∈ p) : ∀ {ps : List (List Nat)}, p ∈ ps → c ∈ joinD ps
  | [], h => nomatch h
  | [q], h => by
    rcases List.mem_cons.mp h with rfl | h
    · exact hc
    · cases h
  | q :: q' :: r, h => by
    rw [joinD_cons q (by simp)]
    rcases List.mem_cons.mp h with rfl | h
    · exact List.mem_append_left _ hc
    · exact List.mem_append_right _ (.tail _ (mem_joinD hc h))
theorem due_ok {sep : Nat → Bool} {x : Str} {b k : Nat} {ps : List (List Nat)} {due : List Str} (H : Found sep (cs x) b k ps) (hok : ∀ c ∈ cs x, c < 0x110000) (hdu : due.map cs = ((ps.drop 1).map (46 :: ·)).reverse) : ∀ y ∈ due, PyData.strOk y = true := by
  intro y hy
  have h1 : cs y ∈ due.map cs := List.mem_map_of_mem hy
  rw [hdu] at h1
  obtain ⟨p, hp, he⟩ := List.mem_map.mp (List.mem_reverse.mp h1)
  have hp' := List.mem_of_mem_drop hp
  unfold PyData.strOk
  rw [Array.all_eq_true_iff_forall_mem]
  intro c hc
  have hc' : c ∈ cs y := by simpa [cs] using hc
  rw [← he] at hc'
  rcases List.mem_cons.mp hc' with rfl | hc'
  · decide
  · have := mem_joinD hc' hp'
    rw [H.join] at this
    simpa using hok c (List.mem_of_mem_drop this)
local macro_rules | `(tactic| k_intsEnd) => `(tactic| first | exact StrsAre.nil | exact StrsAre.append' (by assumption) (.cons _ _ .nil))
theorem loop_run (w : World) {E : Value → Shared → Prop} {Q : Flow → Shared → Prop} {s : Shared} {base h₀ : Heap} {L fa d le : Addr} {cd : Value} {mg mb : Str → Option Value} {mean : ExcName → Option Value}
   {news : List (Addr × Obj)} {x sp stem : Str} {t tc u t9 : Tok} {oc : Obj} {alt : Value} {m : Str → Option Value} {sep : Nat → Bool} {vs : List Value} {due : List Str} {n b k : Nat} {ps : List (List Nat)}
   (K0 : Below callerA base [] h₀) (X : (hd.heap_39 w.params).In h₀) (T : Top hd.view_39 (looseW hd.view_39 []) mean mg mb h₀)
   (F : Fr h₀ L s.heap (fun y => if y = Str.ofString "endings" then some (.ref le) else if y = Str.ofString "left" then some (.str x t9) else if y = Str.ofString "due" then some (.ref d) else if y = Str.ofString "stem" then some (.str stem u) else if y = Str.ofString "other" then some alt else if y = Str.ofString "text" then some (.str x t) else m y))
   (N : News h₀ L s.heap ((le, listOf #[] 0) :: (d, listOf vs.toArray n) :: (L + 1, oc) :: news)) (hle : ∀ p ∈ (d, listOf vs.toArray n) :: (L + 1, oc) :: news, p.1 < le) (hoc : oc.data = .cell (some (.str sp tc)))
   (hx : x.length ≤ 63) (hok : ∀ c ∈ cs x, c < 0x110000) (hsp : sp.length ≤ 2) (hsep : ∀ c, sep c = decide (c ∈ cs sp)) (h46 : sep 46 = false) (halt : AltIs alt sep)
   (H : Found sep (cs x) b k ps) (hv : StrsAre vs due) (hst : cs stem = (cs x).take k ++ ps.headD []) (hdu : due.map cs = ((ps.drop 1).map (46 :: ·)).reverse)
   (hE : PassesOwn (model PySem.Challenge.rw_da0006_02.row.prog w) (callerA.deeper (envOfC (Str.ofString "law") (scopeAt 5) L fa cd)) (envOfC (Str.ofString "law") (scopeAt 5) L fa cd) E)
   (hQ : ∀ h' tk m', Fr h₀ L h' m' → m' (Str.ofString "text") = some (.str x t) → News h₀ L h' ((L + 1, oc) :: news) → Q .next { s with heap := h', toks := tk }) :
   wpAny (model PySem.Challenge.rw_da0006_02.row.prog w) (callerA.deeper (envOfC (Str.ofString "law") (scopeAt 5) L fa cd)) (execs (turnBody.drop 3) (envOfC (Str.ofString "law") (scopeAt 5) L fa cd)) Q E s := by
  revert w
  k_fill
  intro w X
  unfold turnBody bodyAt scopeAt
  dsimp only [PySem.Challenge.pw_da0006_02, List.getElem?_cons_succ, List.getElem?_cons_zero, List.drop_succ_cons, List.drop_zero]
  intro hE
  k_with_none
  w_on
  (k_with "pyIter ref" => skip)
  (k_with "state" => exact loop_start H)
  iterate 18 (first | walk1 | (dsimp only; walk1))
  k_state (fun pre left ends => LoopInv (cs x) k ps pre.length left ends) "left" "endings$"
  · rename_i left tl us ends cc kl1
    have hne : ∀ p ∈ (d, listOf vs.toArray n) :: (news ++ kOwn), p.1 ≠ le := by
      intro p hp
      rcases List.mem_cons.mp hp with rfl | hp
      · exact Nat.ne_of_lt (hle _ (.head _))
      · rcases List.mem_append.mp hp with hp | hp
        · exact Nat.ne_of_lt (hle _ (.tail _ (.tail _ hp)))
        · exact kOff p hp le (.head _)
    have hul : us.length ≤ 64 := by
      rw [kLen, ends_len kInv]; omega
    refine body_run (R := due = ends ∧ stem = left) (c := cc) (us := us) (l := cs x) (k := k) (ps := ps) (nn := kPre.length) (ends := ends) (news := (d, listOf vs.toArray n) :: (news ++ kOwn)) w K0 X T kFr (by rfl) (by rfl) (by rfl) (fun p hp => kNews p ?_) (Nat.ne_of_lt (hle _ (.tail _ (.head _)))) hne hoc
      (Nat.le_trans (loop_len H kInv) hx) hul hsp halt (fun r e hp => (turn_cases hsep h46 H kInv hst hdu hp).imp (fun h => ⟨h.r, h.e, h.due, h.stem⟩) id) ?hBrk ?hNext
    · simp only [List.mem_cons, List.mem_append] at hp ⊢
      rcases hp with h | h | h | h | h <;> simp [h]
    case hBrk =>
      rintro ⟨hdue, hstem⟩ h' tk m' F' hm' N'
      dsimp only [qk, InvPostN]
      subst hstem
      subst hdue
      refine after_run (left := stem) (t1 := tl) (t2 := u) (le := le) (d := d) (us := us) (vs := vs) (ends := due) (c := cc) (n := n) (news := (L + 1, oc) :: news) w K0 X T F' ((hm' _ (by decide +kernel) (by decide +kernel)).trans (by rfl)) ((hm' _ (by decide +kernel) (by decide +kernel)).trans (by rfl))
        ((hm' _ (by decide +kernel) (by decide +kernel)).trans (by rfl)) ((hm' _ (by decide +kernel) (by decide +kernel)).trans (by rfl)) (fun p hp => N' p ?_) kFacts hv (due_ok H hok hdu) ?_
      · simp only [List.mem_cons, List.mem_append] at hp ⊢
        rcases hp with h | h | h | h <;> simp [h]
      · intro h2 tk2 m2 F2 hm2 N2
        exact hQ _ _ _ F2 ((hm2 _).trans ((hm' _ (by decide +kernel) (by decide +kernel)).trans (by rfl))) fun p hp => N2 p (.tail _ (.tail _ hp))
    case hNext =>
      intro r e h' tk m' tr te hon F' hml' hm' N'
      dsimp only [qk, InvPostN]
      refine kst_end (r, tr, us ++ [Value.str e te], ends ++ [e], cc + 1) F' N' ?hn ?ho rfl (strs_snoc kFacts) ?hk ?hr ?hp
      case hn =>
        intro p hp
        simp only [List.mem_cons, List.mem_append] at hp ⊢
        rcases hp with h | h | h | h <;> simp [h]
      case ho =>
        intro p hp
        simp [hp]
      case hk =>
        intro p hp
        rw [List.mem_singleton.mp hp]
        exact hml'
      case hr =>
        intro z h1 h2 h3
        have hz : z ≠ Str.ofString "left" := h2 _ (.head _)
        have h3' : z ≠ Str.ofString "root" ∧ z ≠ Str.ofString "ending" := by
          simpa using h3
        rw [hm' z hz h3'.1 h3'.2]
        rw [if_neg h1, if_neg hz, h3]
        simp
      case hp =>
        have := hon.next
        rw [List.length_append]
        exact this
  · exact (loop_out H (by rw [rangeKs_length]; omega) kInv).elim
end Mine
end
-- part HL
section
namespace Mine
theorem turn_run (w : World) {E : Value → Shared → Prop} {Q : Flow → Shared → Prop} {s : Shared} {base h₀ : Heap} {L fa : Addr} {cd : Value} {mg mb : Str → Option Value} {mean : ExcName → Option Value}
   {news : List (Addr × Obj)} {x sp : Str} {t tc : Tok} {oc : Obj} {alt : Value} {m : Str → Option Value} {sep : Nat → Bool}
   (K0 : Below callerA base [] h₀) (X : (hd.heap_39 w.params).In h₀) (T : Top hd.view_39 (looseW hd.view_39 []) mean mg mb h₀)
   (F : Fr h₀ L s.heap m) (hmx : m (Str.ofString "text") = some (.str x t)) (hmo : m (Str.ofString "other") = some alt)
   (N : News h₀ L s.heap ((L + 1, oc) :: news)) (hoc : oc.data = .cell (some (.str sp tc)))
   (hx : x.length ≤ 63) (hok : ∀ c ∈ cs x, c < 0x110000) (hsp : sp.length ≤ 2) (hsep : ∀ c, sep c = decide (c ∈ cs sp)) (h46 : sep 46 = false) (halt : AltIs alt sep)
   (hE : PassesOwn (model PySem.Challenge.rw_da0006_02.row.prog w) (callerA.deeper (envOfC (Str.ofString "law") (scopeAt 5) L fa cd)) (envOfC (Str.ofString "law") (scopeAt 5) L fa cd) E)
   (hQ : ∀ h' tk m', Fr h₀ L h' m' → m' (Str.ofString "text") = some (.str x t) → News h₀ L h' ((L + 1, oc) :: news) → Q .next { s with heap := h', toks := tk }) :
   wpAny (model PySem.Challenge.rw_da0006_02.row.prog w) (callerA.deeper (envOfC (Str.ofString "law") (scopeAt 5) L fa cd)) (execs turnBody (envOfC (Str.ofString "law") (scopeAt 5) L fa cd)) Q E s := by
  replace F := fr_see (fr_see F hmx) (a := Str.ofString "other") (v := alt) (by rw [if_neg (by decide +kernel)]; exact hmo)
  revert w
  k_fill
  intro w X
  unfold turnBody bodyAt scopeAt
  dsimp only [PySem.Challenge.pw_da0006_02, List.getElem?_cons_succ, List.getElem?_cons_zero]
  intro hE
  clear hmx hmo
  k_with_none
  w_on
  (k_with "call ref" => ((rename Fr _ _ _ _ => F9); (rename News _ _ _ _ => N9); (k_dflt (refine call_endings w K0 X T F9 N9 hx hsp hsep ?_)); intro h' tk a d stem vs due u n b k ps hfound hv hst hdu F5 N5; clear F9 N9))
  k_with "execs cons For cons" =>
    dsimp only
    rename Fr _ _ _ _ => F9
    rename News _ _ _ _ => N9
    rename _ < _ ∧ _ => l9
    obtain ⟨l1, l2, l3, l4⟩ := l9
    k_dflt refine loop_run (n := n) (news := news) w K0 X T F9 (fun p hp => N9 p ?_) (fun p hp => ?_) hoc hx hok hsp hsep h46 halt hfound hv hst hdu hE fun h2 tk2 m2 F2 hm2 N2 => ?_
    · rcases List.mem_cons.mp hp with rfl | hp
      · exact .head _
      · exact .tail _ (.tail _ hp)
    · rcases List.mem_cons.mp hp with rfl | hp
      · exact l2
      · rcases List.mem_cons.mp hp with rfl | hp
        · exact l3
        · exact kst_ltOf l4 p hp
    · exact hQ _ _ _ F2 hm2 N2
  k_steps
end Mine
end
-- part HM
section
namespace Mine
theorem sep_one (c : Nat) : (c == 47) = decide (c ∈ cs (Str.ofString "/")) := by
  rw [slash_is]
  by_cases h : c = 47 <;> simp [h, cs]
theorem sep_two (c : Nat) : (c == 47 || c == 92) = decide (c ∈ cs (Str.ofString "/\\")) := by
  rw [both_is]
  by_cases h : c = 47 <;> by_cases h' : c = 92 <;> simp [h, h', cs]
theorem len_one : (Str.ofString "/").length ≤ 2 := by decide +kernel
theorem len_two : (Str.ofString "/\\").length ≤ 2 := by decide +kernel
theorem news_front {g h : Heap} {L : Addr} {a b c d e : Addr × Obj} (N : News g L h [a, b, c, d, e]) : News g L h [e, a, b, c, d] := fun p hp => N p (by
  simp only [List.mem_cons, List.not_mem_nil, or_false] at hp ⊢
  rcases hp with h | h | h | h | h <;> simp [h])
theorem news_back {g h : Heap} {L : Addr} {a b c d e : Addr × Obj} (N : News g L h [e, a, b, c, d]) : News g L h [a, b, c, d, e] := fun p hp => N p (by
  simp only [List.mem_cons, List.not_mem_nil, or_false] at hp ⊢
  rcases hp with h | h | h | h | h <;> simp [h])
theorem unr_end {h₀ h' : Heap} {L : Addr} {s₁ : Shared} {tk : Nat} {m' : Str → Option Value} {a b c d e : Addr × Obj} {rest : (Str → Option Value) → List (Addr × Obj) → Prop} (F : Fr h₀ L h' m') (N : News h₀ L h' [a, b, c, d, e])
    (h1 : b.1 < a.1) (h2 : c.1 < a.1) (h3 : d.1 < a.1) (h4 : e.1 < a.1) (r : rest m' [b, c, d, e]) : UnrEndW h₀ L s₁ [a] (fun m' n' => SubL [b] n' ∧ rest m' n') { s₁ with heap := h', toks := tk } :=
  ⟨h', tk, m', [b, c, d, e], rfl, F, N, fun p hp q hq => by
    rw [List.mem_singleton.mp hq]
    simp only [List.mem_cons, List.not_mem_nil, or_false] at hp
    rcases hp with rfl | rfl | rfl | rfl
    · exact Nat.ne_of_lt h1
    · exact Nat.ne_of_lt h2
    · exact Nat.ne_of_lt h3
    · exact Nat.ne_of_lt h4, ⟨.head _, trivial⟩, r⟩
theorem law_for (w : World) {E : Value → Shared → Prop} {Q : Flow → Shared → Prop} {s : Shared} {base h₀ : Heap} {L fa : Addr} {cd : Value} {mg mb : Str → Option Value} {mean : ExcName → Option Value}
   {x : Str} {t : Tok} {oc : Obj} {v₀ : Option Value} {m : Str → Option Value}
   (K0 : Below callerA base [] h₀) (X : (hd.heap_39 w.params).In h₀) (T : Top hd.view_39 (looseW hd.view_39 []) mean mg mb h₀)
   (F : Fr h₀ L s.heap m) (hmx : m (Str.ofString "text") = some (.str x t))
   (N : News h₀ L s.heap [(L + 1, oc)]) (hoc : oc.data = .cell v₀)
   (hx : x.length ≤ 63) (hok : ∀ c ∈ cs x, c < 0x110000)
   (hE : PassesOwn (model PySem.Challenge.rw_da0006_02.row.prog w) (callerA.deeper (envOfC (Str.ofString "law") (scopeAt 5) L fa cd)) (envOfC (Str.ofString "law") (scopeAt 5) L fa cd) E)
   (hQ : ∀ h' tk m', Fr h₀ L h' m' → Q (.ret (.bool true)) { s with heap := h', toks := tk }) :
   wpAny (model PySem.Challenge.rw_da0006_02.row.prog w) (callerA.deeper (envOfC (Str.ofString "law") (scopeAt 5) L fa cd)) (execs ((bodyAt 5).drop 1) (envOfC (Str.ofString "law") (scopeAt 5) L fa cd)) Q E s := by
  replace F := fr_see F hmx
  revert w
  k_fill
  intro w X
  unfold bodyAt scopeAt
  dsimp only [PySem.Challenge.pw_da0006_02, List.getElem?_cons_succ, List.getElem?_cons_zero, List.drop_succ_cons, List.drop_zero]
  intro hE
  clear hmx
  k_with_none
  w_on
  k_with "execs cons Assign cons" =>
    rename Fr _ _ _ _ => F9
    rename News _ _ _ _ => N9
    rename _ = Data.cell (some _) => d9
    first
      | k_dflt refine turn_run w K0 X T F9 (by rfl) (by rfl) (news_front N9) d9 hx hok len_one sep_one (by rfl) (.inl ⟨rfl, rfl⟩) hE ?_
      | k_dflt refine turn_run w K0 X T F9 (by rfl) (by rfl) (news_front N9) d9 hx hok len_two sep_two (by rfl) (.inr ⟨_, rfl, rfl⟩) hE ?_
    intro h2 tk2 m2 F2 hm2 N2
    have F3 := fr_see F2 hm2
    have N3 := news_back N2
    clear F9 N9 F2 hm2 N2
  k_with "UnrEndW" =>
    rename Fr _ _ _ _ => F9
    rename News _ _ _ _ => N9
    rename _ < _ ∧ _ ∧ _ ∧ _ => l9
    k_dflt refine unr_end F9 N9 l9.1 l9.2.1 l9.2.2.1 l9.2.2.2 ?_
    clear F9 N9
  k_steps
  dsimp only
  rename Fr _ _ _ _ => F9
  exact hQ _ _ _ F9
end Mine
end
-- part HN
namespace Mine
theorem join_none : ∀ ts : List Str, cs (Str.join (Str.ofString "") ts) = (ts.map cs).flatten
  | [] => rfl
  | [a] => by show cs a = _; simp
  | a :: b :: r => by
    have ih := join_none (b :: r)
    show cs (a ++ Str.ofString "" ++ Str.join (Str.ofString "") (b :: r)) = _
    rw [cs_append, cs_append, ih, none_is]
    simp [cs]
theorem text_ok {G : Int → Str} (hG : ∀ k, (cs (G k)).length ≤ 1 ∧ ∀ c ∈ cs (G k), c < 0x110000) (script : List Int) :
    (Txt.join (Str.ofString "") (script.map G)).length ≤ script.length ∧ ∀ c ∈ cs (Txt.join (Str.ofString "") (script.map G)), c < 0x110000 := by
  have e : Txt.join (Str.ofString "") (script.map G) = Str.join (Str.ofString "") (script.map G) := StrLaws.glued_eq_join _ _
  rw [e]
  constructor
  · rw [← cs_len, join_none]
    induction script with
    | nil => simp
    | cons k r ih =>
      simp only [List.map_cons, List.flatten_cons, List.length_append, List.length_cons]
      have := (hG k).1
      have ih' := ih (StrLaws.glued_eq_join _ _)
      omega
  · intro c hc
    rw [join_none] at hc
    obtain ⟨l, hl, hc⟩ := List.mem_flatten.mp hc
    obtain ⟨a, ha, rfl⟩ := List.mem_map.mp hl
    obtain ⟨k, _, rfl⟩ := List.mem_map.mp ha
    exact (hG k).2 c hc
theorem one_ok {n : Nat} (h : n < 0x110000) : (cs (⟨#[n]⟩ : Str)).length ≤ 1 ∧ ∀ c ∈ cs (⟨#[n]⟩ : Str), c < 0x110000 :=
  ⟨Nat.le_refl _, fun c hc => by
    have : c = n := by simpa [cs] using hc
    rw [this]; exact h⟩
theorem item_ok (x : Str) (hx : x.cps.all (· < 0x110000) = true) (i : Int) : (cs (Txt.item x i)).length ≤ 1 ∧ ∀ c ∈ cs (Txt.item x i), c < 0x110000 := by
  refine one_ok ?_
  cases e : Txt.charAt x i with
  | none => show 0 < 0x110000; decide
  | some c =>
    show c < 0x110000
    unfold Txt.charAt at e
    obtain ⟨j, _, hj⟩ := Option.bind_eq_some_iff.mp e
    have := Array.all_eq_true_iff_forall_mem.mp hx c (Array.mem_of_getElem? hj)
    simpa using this
theorem rest_range (k : Int) : 0 ≤ k.fmod 1112070 ∧ k.fmod 1112070 < 1112070 := by
  rw [Int.fmod_eq_emod_of_nonneg _ (by decide)]
  exact ⟨Int.emod_nonneg _ (by decide), Int.emod_lt_of_pos _ (by decide)⟩
theorem sign_ok (k : Int) : (cs (if k.fmod 1112070 < 6 ∧ (Txt.item (Str.ofString "./\\ab ") (k.fmod 1112070)).length = 1 then Txt.item (Str.ofString "./\\ab ") (k.fmod 1112070)
          else if ¬k.fmod 1112070 < 6 ∧ 55296 ≤ k.fmod 1112070 - 6 then { cps := #[(k.fmod 1112070 - 6 + 2048).toNat] }
            else if ¬k.fmod 1112070 < 6 then { cps := #[(k.fmod 1112070 - 6).toNat] } else Str.empty)).length ≤ 1 ∧
   ∀ c ∈ cs (if k.fmod 1112070 < 6 ∧ (Txt.item (Str.ofString "./\\ab ") (k.fmod 1112070)).length = 1 then Txt.item (Str.ofString "./\\ab ") (k.fmod 1112070)
          else if ¬k.fmod 1112070 < 6 ∧ 55296 ≤ k.fmod 1112070 - 6 then { cps := #[(k.fmod 1112070 - 6 + 2048).toNat] }
            else if ¬k.fmod 1112070 < 6 then { cps := #[(k.fmod 1112070 - 6).toNat] } else Str.empty), c < 0x110000 := by
  obtain ⟨h0, h1⟩ := rest_range k
  split
  · exact item_ok _ (by decide +kernel) _
  · split
    · exact one_ok (by omega)
    · split
      · exact one_ok (by omega)
      · exact ⟨by decide, fun c hc => by cases hc⟩
theorem news_last {g h : Heap} {L : Addr} {a b : Addr × Obj} (N : News g L h [a, b]) : News g L h [b] := fun p hp => N p (.tail _ hp)
end Mine
set_option maxHeartbeats 8000000 in
theorem PySem.Challenge.cw_da0006_02_holds : PySem.Challenge.rw_da0006_02.Holds := by
  k_with_none
  refine Mine.hd ?_
  k_with "execs cons For cons" =>
    rename Fr _ _ _ _ => F9
    rename News _ _ _ _ => N9
    rename Top _ _ _ _ _ _ => T9
    rename Frag.In _ _ => X9
    rename Below _ _ _ _ => K9
    rename Obj.data _ = Data.cell _ => d9
    rename ¬ (63 < _) => h63
    k_dflt refine Mine.law_for _ K9 X9 T9 F9 (by rfl) (Mine.news_last N9) d9 (Nat.le_trans (Mine.text_ok Mine.sign_ok _).1 (by omega)) (Mine.text_ok Mine.sign_ok _).2 ?pso ?fin
    case pso => with_unfolding_all passes_own
    case' fin => (intro h2 tk2 m2 F2; clear F9 N9)
  w_strict (k_go0; (all_goals try k_fold); k_steps)
